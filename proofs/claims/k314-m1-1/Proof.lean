import JvmDerived
import JvmDerived.Pilot.@@N@@Statement
import JvmDerived.Pilot.@@N@@Code
set_option linter.unusedVariables false
set_option linter.unusedSimpArgs false
namespace Jvm.RoadKit
open Sem ClassFile Op Lib Jvm.Stand Jvm.Free Jvm.LawKit
section New
variable {p : Program} {l : Launch} {e : Env} {R : Room} {s : State} {m : MethodId} {args : Array Value} {below : List Frame} {meth : Method} {c : Code} {T : State} {locs : List Loc} {cells slots : Nat}
theorem retI (X : Stand p l e R s m args below meth c T locs cells slots) (hx : p.tables.exec = Jvm.exec) {pc : Nat} {Ls : Array Slot} {z : Int32} {rest : List Value} (hret : meth.sig.returnType = some .int) (hd : decode c.code pc = .ok (.ireturn, 1)) {fs : List Frame}
    (hl : ∀ (f : JFrame) (acts : List Action), f.method = m → f.locked = none → f.entered = [] → (doReturn e (T.setTop f) acts (some (.int z))).1 = T.setFrames fs) : Steps p.tables e below (T.setTop (mkF m pc Ls (.int z :: rest))) (T.setFrames fs) := by
  have hm' : T.vm.method? m = some meth := X.method'
  have hn : narrow .int (.int z) = .int z := rfl
  show Steps p.tables e below (T.setTop { method := m, pc := pc, locals := Ls, stack := _ :: rest, locked := none }) _
  jvm_step X.here [X.here.top, hx, hd, hm', hret, hn]
  first | (intro acts; rw [hl _ acts rfl rfl rfl]) | rw [hl _ _ rfl rfl rfl]
  exact Steps.refl _
end New
end Jvm.RoadKit
namespace Jvm.Pilot.@@N@@
open Jvm Jvm.ClassFile Sem Op Lib Jvm.Free Jvm.Stand Jvm.LawKit Jvm.RoadKit Bundle Jvm.Pilot.@@N@@.Jvm.D
theorem own_imod (x y : Int32) : x - (x / y) * y = x % y := by
  have hd : x / y = Int32.ofInt (x.toInt.tdiv y.toInt) := Int32.toInt_inj.mp (by rw [Int32.toInt_div, Int32.toInt_ofInt])
  have hm : x % y = Int32.ofInt (x.toInt.tmod y.toInt) := by rw [← Int32.toInt_mod, Int32.ofInt_toInt]
  have e := Int.tmod_add_mul_tdiv x.toInt y.toInt
  have e2 : x.toInt.tmod y.toInt = x.toInt - x.toInt.tdiv y.toInt * y.toInt := by rw [Int.mul_comm (x.toInt.tdiv y.toInt)]; omega
  rw [hm, e2, Int32.ofInt_sub, Int32.ofInt_mul, Int32.ofInt_toInt, Int32.ofInt_toInt, ← hd]
theorem own_irem {tb : Tables} [Ours tb] {e : Env} {below : List Frame} {T target : State} {m : MethodId} {c : Code} {g : JFrame} (h : At T m c below) (hx : tb.exec = Jvm.exec) (hg : g.method = m) {x y : Int32} {rest : List Value} (hd : decode c.code g.pc = .ok (.irem, 1)) (hs : g.stack = .int y :: .int x :: rest) (hy : y ≠ 0) (hr : Steps tb e below (T.setTop { g with pc := g.pc + 1, stack := .int (x % y) :: rest }) target) : Steps tb e below (T.setTop g) target := XS.irem h hx hg hd hs hy (by rw [own_imod]; exact hr)
def own_Qr (h0 : Heap) (n0 : Nat) (r : Value) (v : Option Value) (h : Heap) (L : List Loc) : Prop := v = some r ∧ Fr n0 L ∧ h = h0

theorem own_ti {k : Nat} (h : k < 2147483648) : (Int32.ofNat k).toInt = k := len_toInt (by omega)
theorem own_nc {k : Nat} (h : k < 2147483648) : (Int32.ofNat k).toNatClampNeg = k := by
  simp only [Int32.toNatClampNeg, own_ti h]; omega
theorem own_ltn {i n : Nat} (hi : i < 2147483648) (hn : n < 2147483648) : Int32.ofNat i < Int32.ofNat n ↔ i < n := by
  rw [Int32.lt_iff_toInt_lt, own_ti hi, own_ti hn]; omega
theorem own_nneg {k : Nat} (h : k < 2147483648) : ¬ Int32.ofNat k < 0 := by
  have h0 : (0 : Int32).toInt = 0 := by decide
  rw [Int32.lt_iff_toInt_lt, own_ti h, h0]; omega
theorem own_add1 (k : Nat) : Int32.ofNat k + (1 : Int32) = Int32.ofNat (k + 1) := (Int32.ofNat_add k 1).symm
theorem own_sub1 (k : Nat) : Int32.ofNat (k + 1) - (1 : Int32) = Int32.ofNat k := by
  rw [← own_add1]; exact Int32.add_sub_cancel _ _
theorem own_dec1 (k : Nat) : Int32.ofNat (k + 1) + (-1 : Int32) = Int32.ofNat k := by
  rw [← own_sub1 k, Int32.sub_eq_add_neg]
theorem own_inb {k N : Nat} {cl : Cell} (S : cl.slots.size = N) (h : k < N) (hN : N < 2147483648) : ¬ (Int32.ofNat k < 0 ∨ cl.slots.size ≤ (Int32.ofNat k).toNatClampNeg) := by
  rw [S, own_nc (by omega)]
  rintro (q | q)
  · exact own_nneg (by omega) q
  · omega

def own_AF (Z : State) (h : Heap) (a : Addr) (ty : FieldType) (N : Nat) (f : Nat → Value) : Prop := N < 2147483648 ∧ ∃ cl : Cell, Arr Z h a cl ty ∧ cl.slots.size = N ∧ (∀ j, j < N → cl.slots[j]? = some (f j)) ∧ ∀ j, j < N → fits ty (f j) = true
theorem own_AF.lt {Z : State} {h : Heap} {a : Addr} {ty : FieldType} {N : Nat} {f : Nat → Value} (F : own_AF Z h a ty N f) : a < h.size := by obtain ⟨-, c, A, -⟩ := F; exact A.lt
theorem own_AF.ext {Z : State} {h h' : Heap} {a : Addr} {ty : FieldType} {N : Nat} {f : Nat → Value} (F : own_AF Z h a ty N f) (E : Ext h h') : own_AF Z h' a ty N f := by obtain ⟨q, c, A, r⟩ := F; exact ⟨q, c, A.ext E, r⟩
theorem own_AF.other {Z : State} {h h' : Heap} {a b : Addr} {sl : Nat} {v : Value} {ty : FieldType} {N : Nat} {f : Nat → Value} (F : own_AF Z h b ty N f) (W : Wr h h' a sl v) (q : b ≠ a) : own_AF Z h' b ty N f := by obtain ⟨k, c, A, r⟩ := F; exact ⟨k, c, A.other W q, r⟩
theorem own_AF.keep {Z : State} {h h' : Heap} {a : Addr} {ws : List Addr} {ty : FieldType} {N : Nat} {f : Nat → Value} (F : own_AF Z h a ty N f) (K : Keep h h' ws) (q : a ∉ ws) : own_AF Z h' a ty N f := by obtain ⟨k, c, A, r⟩ := F; exact ⟨k, c, ⟨K.2.1 a c A.1 q, A.2⟩, r⟩
def own_upd {α : Type} (f : Nat → α) (j : Nat) (v : α) : Nat → α := fun k => if k = j then v else f k
theorem own_AF.set {Z : State} {h h' : Heap} {a : Addr} {j : Nat} {v : Value} {ty : FieldType} {N : Nat} {f : Nat → Value} (F : own_AF Z h a ty N f) (W : Wr h h' a j v) (hj : j < N) (hv : fits ty v = true) : own_AF Z h' a ty N (own_upd f j v) := by
  obtain ⟨k, c, A, S, H, G⟩ := F
  refine ⟨k, _, A.same W, by rw [sz_set]; exact S, fun i hi => ?_, fun i hi => ?_⟩
  · show (c.slots.setIfInBounds j v)[i]? = some (if i = j then v else f i)
    by_cases q : i = j
    · subst q
      rw [if_pos rfl, Array.getElem?_setIfInBounds_self_of_lt (by rw [S]; exact hj)]
    · rw [if_neg q, Array.getElem?_setIfInBounds_ne (fun z => q z.symm)]; exact H i hi
  · show fits ty (if i = j then v else f i) = true
    by_cases q : i = j
    · rw [if_pos q]; exact hv
    · rw [if_neg q]; exact G i hi
theorem own_AF.of {Z : State} {h : Heap} {a : Addr} {k : ClassId} {ty : FieldType} {z : Int32} {vs : List Value} {dv : Value} (V : Arv Z h a k ty z vs dv) (N : Nat) (hN : z.toNatClampNeg = N) (f : Nat → Value) (hf : ∀ j, j < N → vs.getD j dv = f j) : own_AF Z h a ty N f := by
  obtain ⟨c, A, -, S, M, H, G⟩ := V
  have hS : c.slots.size = N := S.trans hN
  refine ⟨by rw [← hN]; exact (back32 M).2, c, A, hS, fun j hj => ?_, fun j hj => ?_⟩
  · rw [← hf j hj]; exact H j (by rw [hS]; exact hj)
  · rw [← hf j hj]; exact G j (by rw [hS]; exact hj)
theorem own_AF.arv {Z : State} {h : Heap} {a : Addr} {ty : FieldType} {N : Nat} {f : Nat → Value} (F : own_AF Z h a ty N f) (dv : Value) : ∃ k, Arv Z h a k ty (Int32.ofNat N) ((List.range N).map f) dv := by
  obtain ⟨q, c, A, S, H, G⟩ := F
  have e : ∀ j, j < N → ((List.range N).map f).getD j dv = f j := fun j hj => by simp [List.getD_eq_getElem?_getD, hj]
  refine ⟨c.cls, c, A, rfl, by rw [own_nc q]; exact S, own_nneg q, fun j hj => ?_, fun j hj => ?_⟩
  · rw [S] at hj; rw [e j hj]; exact H j hj
  · rw [S] at hj; rw [e j hj]; exact G j hj
theorem own_AF.congr {Z : State} {h : Heap} {a : Addr} {ty : FieldType} {N : Nat} {f g : Nat → Value} (F : own_AF Z h a ty N f) (e : ∀ j, j < N → f j = g j) : own_AF Z h a ty N g := by
  obtain ⟨q, c, A, S, H, G⟩ := F
  exact ⟨q, c, A, S, fun j hj => by rw [← e j hj]; exact H j hj, fun j hj => by rw [← e j hj]; exact G j hj⟩
theorem d3_0 : decode method_2_code 0 = .ok (.iload_n 0, 1) := by decide +kernel
theorem d3_1 : decode method_2_code 1 = .ok (.bipush 65, 2) := by decide +kernel
theorem d3_3 : decode method_2_code 3 = .ok (.if_icmp .lt 15, 3) := by decide +kernel
theorem d3_18 : decode method_2_code 18 = .ok (.iload_n 0, 1) := by decide +kernel
theorem d3_19 : decode method_2_code 19 = .ok (.ireturn, 1) := by decide +kernel
theorem pn_3 : plainName "com/example/skwash/skwash/command/GlobLowerCasePinLaw" = true := by first | (simp [plainName, overriddenIn]; done) | decide +kernel
theorem ef_3 (m : MethodId) (x0 : Int32) : entryFrame m #[(.int x0)] 1 = mkF m 0 #[.val (.int x0)] [] := by first | (simp [entryFrame, mkF, argsToLocals, Value.category]; done) | rfl
def Q3a (Z : State) (p1 : Int32) (h0 : Heap) (n0 : Nat) (v : Option Value) (h : Heap) (L : List Loc) : Prop := v = some (.int (p1.toInt8.toInt32)) ∧ Fr n0 L ∧ h = h0
set_option maxRecDepth 65536 in
set_option maxHeartbeats 40000000 in
theorem rm3a (l : Launch) (Z : State) (a0 : Array Value) (hw : ∀ d ∈ tables_1, d.before a0 Z = true) (ws : List Jvm.Cond) (p1 : Int32) (h0 : Heap) (n0 : Nat) (Z0 : n0 ≤ h0.size) (hc3 : p1 < (65 : Int32)) :
    MetFree l (⟨"com/example/skwash/skwash/command/GlobLowerCasePinLaw", "lower", "(B)B"⟩ : MethodName) (head1 (Jvm.Cond.code (⟨"com/example/skwash/skwash/command/GlobLowerCasePinLaw", "lower", "(B)B"⟩ : MethodName) method_2_code 1 (some .byte) :: ws) ({ frames := 0, cells := 0, slots := 0, locals := 0 } : Room)) (fun a U => a = #[(.int p1)] ∧ Z.Warmed39 U.vm ∧ U.heap = h0) (fun _ _ _ _ _ => True) (fun _ U o U' => ∃ v L, o = .returned v ∧ Q3a Z p1 h0 n0 v U'.heap L ∧ FrameEnd U o U' L ({ frames := 0, cells := 0, slots := 0, locals := 0 } : Room).cells ({ frames := 0, cells := 0, slots := 0, locals := 0 } : Room).slots) := by
  refine MetFree.of_bodySF (plainFor_of_name pn_3) hisR ?_
  intro p e s m args below meth c s₁ Bd hml0 hP hK
  obtain ⟨rfl, hZ, hh⟩ := hP
  have hx := Bd.exec
  have hby := Bd.bytes
  have hml : c.maxLocals = 1 := hml0
  have hown : s.vm.findClass "com/example/skwash/skwash/command/GlobLowerCasePinLaw" = some m.cls := findClass_of_methodNamed Bd.named
  have hnm := (name_of_methodNamed Bd.named Bd.method).1
  have X0 : Stand p l e ({ frames := 0, cells := 0, slots := 0, locals := 0 } : Room) s m #[(.int p1)] below meth c s₁ [] 0 0 := Stand.of_body Bd
  have e0 : s₁.heap = h0 := by rw [← hh, Bd.state]; rfl
  have N0 := Fr.nil n0
  have pre0 : ∀ t, Steps p.tables e below (s₁.setTop (mkF m 0 #[.val (.int p1)] [])) t → Steps p.tables e below (s₁.setTop (entryFrame m #[(.int p1)] 1)) t := fun t k => castTop (ef_3 m p1) k

  obtain ⟨fs, hr, hrun, hended, hW, hsame⟩ := X0.leave (v := some (.int (p1.toInt8.toInt32))) (fun h => by rw [Bd.returns] at h; cases h)
  refine ⟨_, _, pre0 _ ?_, hrun, hended, _, _, rfl, ?_, ⟨_, rfl⟩, hW, hsame.mono (by decide) (by decide)⟩
  · show Steps p.tables e below (s₁.setTop (mkF m 0 #[.val (.int p1)] [])) _
    refine XS.iloadN X0.here hx rfl (hb hby d3_0) rfl ?_
    show Steps p.tables e below (s₁.setTop (mkF m 1 #[.val (.int p1)] [(.int p1)])) _
    refine XS.bipush X0.here hx rfl (hb hby d3_1) ?_
    show Steps p.tables e below (s₁.setTop (mkF m 3 #[.val (.int p1)] [(.int (65 : Int32)), (.int p1)])) _
    refine XS.icmpYes X0.here hx rfl (pc0 := 3) (pc' := 18) rfl (hb hby d3_3) rfl (tlt hc3).1 (by decide) (by decide) ?_
    show Steps p.tables e below (s₁.setTop (mkF m 18 #[.val (.int p1)] [])) _
    refine XS.iloadN X0.here hx rfl (hb hby d3_18) rfl ?_
    show Steps p.tables e below (s₁.setTop (mkF m 19 #[.val (.int p1)] [(.int p1)])) _
    exact retN X0 hx (t := .byte) Bd.returns (by simp) (hb hby d3_19) hr
  · show Q3a Z p1 h0 n0 _ s₁.heap _
    rw [e0]
    exact ⟨rfl, N0, rfl⟩
theorem d3_6 : decode method_2_code 6 = .ok (.iload_n 0, 1) := by decide +kernel
theorem d3_7 : decode method_2_code 7 = .ok (.bipush 90, 2) := by decide +kernel
theorem d3_9 : decode method_2_code 9 = .ok (.if_icmp .gt 9, 3) := by decide +kernel
def Q3b (Z : State) (p1 : Int32) (h0 : Heap) (n0 : Nat) (v : Option Value) (h : Heap) (L : List Loc) : Prop := v = some (.int (p1.toInt8.toInt32)) ∧ Fr n0 L ∧ h = h0
set_option maxRecDepth 65536 in
set_option maxHeartbeats 40000000 in
theorem rm3b (l : Launch) (Z : State) (a0 : Array Value) (hw : ∀ d ∈ tables_1, d.before a0 Z = true) (ws : List Jvm.Cond) (p1 : Int32) (h0 : Heap) (n0 : Nat) (Z0 : n0 ≤ h0.size) (hc3 : ¬ (p1 < (65 : Int32))) (hc9 : (90 : Int32) < p1) :
    MetFree l (⟨"com/example/skwash/skwash/command/GlobLowerCasePinLaw", "lower", "(B)B"⟩ : MethodName) (head1 (Jvm.Cond.code (⟨"com/example/skwash/skwash/command/GlobLowerCasePinLaw", "lower", "(B)B"⟩ : MethodName) method_2_code 1 (some .byte) :: ws) ({ frames := 0, cells := 0, slots := 0, locals := 0 } : Room)) (fun a U => a = #[(.int p1)] ∧ Z.Warmed39 U.vm ∧ U.heap = h0) (fun _ _ _ _ _ => True) (fun _ U o U' => ∃ v L, o = .returned v ∧ Q3b Z p1 h0 n0 v U'.heap L ∧ FrameEnd U o U' L ({ frames := 0, cells := 0, slots := 0, locals := 0 } : Room).cells ({ frames := 0, cells := 0, slots := 0, locals := 0 } : Room).slots) := by
  refine MetFree.of_bodySF (plainFor_of_name pn_3) hisR ?_
  intro p e s m args below meth c s₁ Bd hml0 hP hK
  obtain ⟨rfl, hZ, hh⟩ := hP
  have hx := Bd.exec
  have hby := Bd.bytes
  have hml : c.maxLocals = 1 := hml0
  have hown : s.vm.findClass "com/example/skwash/skwash/command/GlobLowerCasePinLaw" = some m.cls := findClass_of_methodNamed Bd.named
  have hnm := (name_of_methodNamed Bd.named Bd.method).1
  have X0 : Stand p l e ({ frames := 0, cells := 0, slots := 0, locals := 0 } : Room) s m #[(.int p1)] below meth c s₁ [] 0 0 := Stand.of_body Bd
  have e0 : s₁.heap = h0 := by rw [← hh, Bd.state]; rfl
  have N0 := Fr.nil n0
  have pre0 : ∀ t, Steps p.tables e below (s₁.setTop (mkF m 0 #[.val (.int p1)] [])) t → Steps p.tables e below (s₁.setTop (entryFrame m #[(.int p1)] 1)) t := fun t k => castTop (ef_3 m p1) k

  obtain ⟨fs, hr, hrun, hended, hW, hsame⟩ := X0.leave (v := some (.int (p1.toInt8.toInt32))) (fun h => by rw [Bd.returns] at h; cases h)
  refine ⟨_, _, pre0 _ ?_, hrun, hended, _, _, rfl, ?_, ⟨_, rfl⟩, hW, hsame.mono (by decide) (by decide)⟩
  · show Steps p.tables e below (s₁.setTop (mkF m 0 #[.val (.int p1)] [])) _
    refine XS.iloadN X0.here hx rfl (hb hby d3_0) rfl ?_
    show Steps p.tables e below (s₁.setTop (mkF m 1 #[.val (.int p1)] [(.int p1)])) _
    refine XS.bipush X0.here hx rfl (hb hby d3_1) ?_
    show Steps p.tables e below (s₁.setTop (mkF m 3 #[.val (.int p1)] [(.int (65 : Int32)), (.int p1)])) _
    refine XS.icmpNo X0.here hx rfl (hb hby d3_3) rfl (flt hc3).1 ?_
    show Steps p.tables e below (s₁.setTop (mkF m 6 #[.val (.int p1)] [])) _
    refine XS.iloadN X0.here hx rfl (hb hby d3_6) rfl ?_
    show Steps p.tables e below (s₁.setTop (mkF m 7 #[.val (.int p1)] [(.int p1)])) _
    refine XS.bipush X0.here hx rfl (hb hby d3_7) ?_
    show Steps p.tables e below (s₁.setTop (mkF m 9 #[.val (.int p1)] [(.int (90 : Int32)), (.int p1)])) _
    refine XS.icmpYes X0.here hx rfl (pc0 := 9) (pc' := 18) rfl (hb hby d3_9) rfl (tlt hc9).2.2.1 (by decide) (by decide) ?_
    show Steps p.tables e below (s₁.setTop (mkF m 18 #[.val (.int p1)] [])) _
    refine XS.iloadN X0.here hx rfl (hb hby d3_18) rfl ?_
    show Steps p.tables e below (s₁.setTop (mkF m 19 #[.val (.int p1)] [(.int p1)])) _
    exact retN X0 hx (t := .byte) Bd.returns (by simp) (hb hby d3_19) hr
  · show Q3b Z p1 h0 n0 _ s₁.heap _
    rw [e0]
    exact ⟨rfl, N0, rfl⟩
theorem d3_12 : decode method_2_code 12 = .ok (.iload_n 0, 1) := by decide +kernel
theorem d3_13 : decode method_2_code 13 = .ok (.bipush 32, 2) := by decide +kernel
theorem d3_15 : decode method_2_code 15 = .ok (.iadd, 1) := by decide +kernel
theorem d3_16 : decode method_2_code 16 = .ok (.i2b, 1) := by decide +kernel
theorem d3_17 : decode method_2_code 17 = .ok (.ireturn, 1) := by decide +kernel
def Q3c (Z : State) (p1 : Int32) (h0 : Heap) (n0 : Nat) (v : Option Value) (h : Heap) (L : List Loc) : Prop := v = some (.int (((p1 + (32 : Int32)).toInt8.toInt32).toInt8.toInt32)) ∧ Fr n0 L ∧ h = h0
set_option maxRecDepth 65536 in
set_option maxHeartbeats 40000000 in
theorem rm3c (l : Launch) (Z : State) (a0 : Array Value) (hw : ∀ d ∈ tables_1, d.before a0 Z = true) (ws : List Jvm.Cond) (p1 : Int32) (h0 : Heap) (n0 : Nat) (Z0 : n0 ≤ h0.size) (hc3 : ¬ (p1 < (65 : Int32))) (hc9 : ¬ ((90 : Int32) < p1)) :
    MetFree l (⟨"com/example/skwash/skwash/command/GlobLowerCasePinLaw", "lower", "(B)B"⟩ : MethodName) (head1 (Jvm.Cond.code (⟨"com/example/skwash/skwash/command/GlobLowerCasePinLaw", "lower", "(B)B"⟩ : MethodName) method_2_code 1 (some .byte) :: ws) ({ frames := 0, cells := 0, slots := 0, locals := 0 } : Room)) (fun a U => a = #[(.int p1)] ∧ Z.Warmed39 U.vm ∧ U.heap = h0) (fun _ _ _ _ _ => True) (fun _ U o U' => ∃ v L, o = .returned v ∧ Q3c Z p1 h0 n0 v U'.heap L ∧ FrameEnd U o U' L ({ frames := 0, cells := 0, slots := 0, locals := 0 } : Room).cells ({ frames := 0, cells := 0, slots := 0, locals := 0 } : Room).slots) := by
  refine MetFree.of_bodySF (plainFor_of_name pn_3) hisR ?_
  intro p e s m args below meth c s₁ Bd hml0 hP hK
  obtain ⟨rfl, hZ, hh⟩ := hP
  have hx := Bd.exec
  have hby := Bd.bytes
  have hml : c.maxLocals = 1 := hml0
  have hown : s.vm.findClass "com/example/skwash/skwash/command/GlobLowerCasePinLaw" = some m.cls := findClass_of_methodNamed Bd.named
  have hnm := (name_of_methodNamed Bd.named Bd.method).1
  have X0 : Stand p l e ({ frames := 0, cells := 0, slots := 0, locals := 0 } : Room) s m #[(.int p1)] below meth c s₁ [] 0 0 := Stand.of_body Bd
  have e0 : s₁.heap = h0 := by rw [← hh, Bd.state]; rfl
  have N0 := Fr.nil n0
  have pre0 : ∀ t, Steps p.tables e below (s₁.setTop (mkF m 0 #[.val (.int p1)] [])) t → Steps p.tables e below (s₁.setTop (entryFrame m #[(.int p1)] 1)) t := fun t k => castTop (ef_3 m p1) k

  obtain ⟨fs, hr, hrun, hended, hW, hsame⟩ := X0.leave (v := some (.int (((p1 + (32 : Int32)).toInt8.toInt32).toInt8.toInt32))) (fun h => by rw [Bd.returns] at h; cases h)
  refine ⟨_, _, pre0 _ ?_, hrun, hended, _, _, rfl, ?_, ⟨_, rfl⟩, hW, hsame.mono (by decide) (by decide)⟩
  · show Steps p.tables e below (s₁.setTop (mkF m 0 #[.val (.int p1)] [])) _
    refine XS.iloadN X0.here hx rfl (hb hby d3_0) rfl ?_
    show Steps p.tables e below (s₁.setTop (mkF m 1 #[.val (.int p1)] [(.int p1)])) _
    refine XS.bipush X0.here hx rfl (hb hby d3_1) ?_
    show Steps p.tables e below (s₁.setTop (mkF m 3 #[.val (.int p1)] [(.int (65 : Int32)), (.int p1)])) _
    refine XS.icmpNo X0.here hx rfl (hb hby d3_3) rfl (flt hc3).1 ?_
    show Steps p.tables e below (s₁.setTop (mkF m 6 #[.val (.int p1)] [])) _
    refine XS.iloadN X0.here hx rfl (hb hby d3_6) rfl ?_
    show Steps p.tables e below (s₁.setTop (mkF m 7 #[.val (.int p1)] [(.int p1)])) _
    refine XS.bipush X0.here hx rfl (hb hby d3_7) ?_
    show Steps p.tables e below (s₁.setTop (mkF m 9 #[.val (.int p1)] [(.int (90 : Int32)), (.int p1)])) _
    refine XS.icmpNo X0.here hx rfl (hb hby d3_9) rfl (flt hc9).2.2.1 ?_
    show Steps p.tables e below (s₁.setTop (mkF m 12 #[.val (.int p1)] [])) _
    refine XS.iloadN X0.here hx rfl (hb hby d3_12) rfl ?_
    show Steps p.tables e below (s₁.setTop (mkF m 13 #[.val (.int p1)] [(.int p1)])) _
    refine XS.bipush X0.here hx rfl (hb hby d3_13) ?_
    show Steps p.tables e below (s₁.setTop (mkF m 15 #[.val (.int p1)] [(.int (32 : Int32)), (.int p1)])) _
    refine XS.iadd X0.here hx rfl (hb hby d3_15) rfl ?_
    show Steps p.tables e below (s₁.setTop (mkF m 16 #[.val (.int p1)] [(.int (p1 + (32 : Int32)))])) _
    refine XS.i2b X0.here hx rfl (hb hby d3_16) rfl ?_
    show Steps p.tables e below (s₁.setTop (mkF m 17 #[.val (.int p1)] [(.int ((p1 + (32 : Int32)).toInt8.toInt32))])) _
    exact retN X0 hx (t := .byte) Bd.returns (by simp) (hb hby d3_17) hr
  · show Q3c Z p1 h0 n0 _ s₁.heap _
    rw [e0]
    exact ⟨rfl, N0, rfl⟩
def own_f3 (p1 : Int32) : Int32 := (if p1 < (65 : Int32) then (p1.toInt8.toInt32) else (if (90 : Int32) < p1 then (p1.toInt8.toInt32) else (((p1 + (32 : Int32)).toInt8.toInt32).toInt8.toInt32)))
theorem rm3 (l : Launch) (Z : State) (a0 : Array Value) (hw : ∀ d ∈ tables_1, d.before a0 Z = true) (ws : List Jvm.Cond) (p1 : Int32) (h0 : Heap) (n0 : Nat) (Z0 : n0 ≤ h0.size) :
    MetFree l (⟨"com/example/skwash/skwash/command/GlobLowerCasePinLaw", "lower", "(B)B"⟩ : MethodName) (head1 (Jvm.Cond.code (⟨"com/example/skwash/skwash/command/GlobLowerCasePinLaw", "lower", "(B)B"⟩ : MethodName) method_2_code 1 (some .byte) :: ws) ({ frames := 0, cells := 0, slots := 0, locals := 0 } : Room)) (fun a U => a = #[(.int p1)] ∧ Z.Warmed39 U.vm ∧ U.heap = h0) (fun _ _ _ _ _ => True) (fun _ U o U' => ∃ v L, o = .returned v ∧ own_Qr h0 n0 (.int (own_f3 p1)) v U'.heap L ∧ FrameEnd U o U' L ({ frames := 0, cells := 0, slots := 0, locals := 0 } : Room).cells ({ frames := 0, cells := 0, slots := 0, locals := 0 } : Room).slots) := by
  unfold own_f3
  by_cases hc3 : p1 < (65 : Int32)
  · rw [if_pos hc3]
    exact rm3a l Z a0 hw ws p1 h0 n0 Z0 hc3
  · rw [if_neg hc3]
    by_cases hc9 : (90 : Int32) < p1
    · rw [if_pos hc9]
      exact rm3b l Z a0 hw ws p1 h0 n0 Z0 hc3 hc9
    · rw [if_neg hc9]
      exact rm3c l Z a0 hw ws p1 h0 n0 Z0 hc3 hc9

def own_b (x : Int32) : Int32 := x.toInt8.toInt32
theorem own_bb (x : Int32) : own_b (own_b x) = own_b x := by unfold own_b; rw [Int8.toInt8_toInt32]
def own_lw (x : Int32) : Int32 := if x < 65 then x else if 90 < x then x else own_b (own_b (x + 32))
theorem own_lwf {x : Int32} (h : own_b x = x) : own_lw x = own_f3 x := by
  have h' : x.toInt8.toInt32 = x := h
  unfold own_lw own_f3
  rw [h']; rfl
theorem own_fitb {x : Int32} (h : own_b x = x) : fits .byte (.int x) = true := by rw [← h]; exact fits_nar_byte x
theorem d1_10 : decode prog_5_method_2_code 10 = .ok (.iload_n 2, 1) := by decide +kernel
theorem d1_11 : decode prog_5_method_2_code 11 = .ok (.aload_n 1, 1) := by decide +kernel
theorem d1_12 : decode prog_5_method_2_code 12 = .ok (.arraylength, 1) := by decide +kernel
theorem d1_13 : decode prog_5_method_2_code 13 = .ok (.if_icmp .ge 34, 3) := by decide +kernel
set_option maxRecDepth 65536 in
set_option maxHeartbeats 40000000 in
theorem own_lv {p : Program} {l : Launch} {e : Env} {R : Room} {s : State} {m : MethodId} {args : Array Value} {below : List Frame} {meth : Method} {c : Code} {T0 : State} {locs : List Loc} {cells slots : Nat} {Z : State} {a0 : Array Value} {h0 : Heap} (s0 : Slot) (o1 : Addr) (i2 : Int32) (cl_o1 : Cell) (z_o1 : Int32)
    (X0 : Stand p l e R s m args below meth c T0 locs cells slots) (hx : p.tables.exec = Jvm.exec) (hZ : Z.Warmed39 s.vm) (hw : ∀ d ∈ tables_1, d.before a0 Z = true) (hby : c.code = prog_5_method_2_code) (hml : c.maxLocals = 3) (hown : s.vm.findClass "com/example/skwash/skwash/command/Glob" = some m.cls) (e0 : T0.heap = h0) (Ar_o1 : Arr Z h0 o1 cl_o1 .byte) (S_o1 : cl_o1.slots.size = z_o1.toNatClampNeg) (N_o1 : ¬ z_o1 < 0) (hc13 : ¬ (i2 < z_o1)) :
    ∃ (T' : State), Stand p l e R s m args below meth c T' locs cells slots ∧ T'.heap = h0 ∧
      ∀ target, Steps p.tables e below (T'.setTop (mkF m 47 #[s0, .val (.ref o1), .val (.int i2)] [])) target → Steps p.tables e below (T0.setTop (mkF m 10 #[s0, .val (.ref o1), .val (.int i2)] [])) target := by

  refine ⟨T0, X0, e0, fun target kt => ?_⟩
  show Steps p.tables e below (T0.setTop (mkF m 10 #[s0, .val (.ref o1), .val (.int i2)] [])) _
  refine XS.iloadN X0.here hx rfl (hb hby d1_10) rfl ?_
  show Steps p.tables e below (T0.setTop (mkF m 11 #[s0, .val (.ref o1), .val (.int i2)] [(.int i2)])) _
  refine XS.aloadN X0.here hx rfl (hb hby d1_11) rfl rfl ?_
  show Steps p.tables e below (T0.setTop (mkF m 12 #[s0, .val (.ref o1), .val (.int i2)] [(.ref o1), (.int i2)])) _
  refine X0.arraylength hx (by rw [e0]; exact Ar_o1.1) (State.isArrayOf_alike hZ.alike Ar_o1.2.1) (g := (mkF m 12 #[s0, .val (.ref o1), .val (.int i2)] [(.ref o1), (.int i2)])) rfl rfl (hb hby d1_12) _ ?_
  rw [len_of S_o1 N_o1]
  show Steps p.tables e below (T0.setTop (mkF m 13 #[s0, .val (.ref o1), .val (.int i2)] [(.int z_o1), (.int i2)])) _
  refine XS.icmpYes X0.here hx rfl (pc0 := 13) (pc' := 47) rfl (hb hby d1_13) rfl (flt hc13).2.1 (by decide) (by decide) ?_
  exact kt
theorem d1_16 : decode prog_5_method_2_code 16 = .ok (.aload_n 1, 1) := by decide +kernel
theorem d1_17 : decode prog_5_method_2_code 17 = .ok (.iload_n 2, 1) := by decide +kernel
theorem d1_18 : decode prog_5_method_2_code 18 = .ok (.baload, 1) := by decide +kernel
theorem d1_19 : decode prog_5_method_2_code 19 = .ok (.bipush 65, 2) := by decide +kernel
theorem d1_21 : decode prog_5_method_2_code 21 = .ok (.if_icmp .lt 20, 3) := by decide +kernel
theorem d1_41 : decode prog_5_method_2_code 41 = .ok (.iinc 2 1, 3) := by decide +kernel
theorem d1_44 : decode prog_5_method_2_code 44 = .ok (.goto (-34), 3) := by decide +kernel
set_option maxRecDepth 65536 in
set_option maxHeartbeats 40000000 in
theorem own_l1 {p : Program} {l : Launch} {e : Env} {R : Room} {s : State} {m : MethodId} {args : Array Value} {below : List Frame} {meth : Method} {c : Code} {T0 : State} {locs : List Loc} {cells slots : Nat} {Z : State} {a0 : Array Value} {h0 : Heap} (s0 : Slot) (o1 : Addr) (i2 : Int32) (cl_o1 : Cell) (z_o1 : Int32) (w2 : Int32)
    (X0 : Stand p l e R s m args below meth c T0 locs cells slots) (hx : p.tables.exec = Jvm.exec) (hZ : Z.Warmed39 s.vm) (hw : ∀ d ∈ tables_1, d.before a0 Z = true) (hby : c.code = prog_5_method_2_code) (hml : c.maxLocals = 3) (hown : s.vm.findClass "com/example/skwash/skwash/command/Glob" = some m.cls) (e0 : T0.heap = h0) (Ar_o1 : Arr Z h0 o1 cl_o1 .byte) (S_o1 : cl_o1.slots.size = z_o1.toNatClampNeg) (N_o1 : ¬ z_o1 < 0) (hin18 : ¬ (i2 < 0 ∨ cl_o1.slots.size ≤ (i2).toNatClampNeg)) (hat18 : cl_o1.slots[(i2).toNatClampNeg]? = some (.int w2)) (hc13 : i2 < z_o1) (hc21 : w2 < (65 : Int32)) :
    ∃ (T' : State), Stand p l e R s m args below meth c T' locs cells slots ∧ T'.heap = h0 ∧
      ∀ target, Steps p.tables e below (T'.setTop (mkF m 10 #[s0, .val (.ref o1), .val (.int (i2 + (1 : Int32)))] [])) target → Steps p.tables e below (T0.setTop (mkF m 10 #[s0, .val (.ref o1), .val (.int i2)] [])) target := by

  refine ⟨T0, X0, e0, fun target kt => ?_⟩
  show Steps p.tables e below (T0.setTop (mkF m 10 #[s0, .val (.ref o1), .val (.int i2)] [])) _
  refine XS.iloadN X0.here hx rfl (hb hby d1_10) rfl ?_
  show Steps p.tables e below (T0.setTop (mkF m 11 #[s0, .val (.ref o1), .val (.int i2)] [(.int i2)])) _
  refine XS.aloadN X0.here hx rfl (hb hby d1_11) rfl rfl ?_
  show Steps p.tables e below (T0.setTop (mkF m 12 #[s0, .val (.ref o1), .val (.int i2)] [(.ref o1), (.int i2)])) _
  refine X0.arraylength hx (by rw [e0]; exact Ar_o1.1) (State.isArrayOf_alike hZ.alike Ar_o1.2.1) (g := (mkF m 12 #[s0, .val (.ref o1), .val (.int i2)] [(.ref o1), (.int i2)])) rfl rfl (hb hby d1_12) _ ?_
  rw [len_of S_o1 N_o1]
  show Steps p.tables e below (T0.setTop (mkF m 13 #[s0, .val (.ref o1), .val (.int i2)] [(.int z_o1), (.int i2)])) _
  refine XS.icmpNo X0.here hx rfl (hb hby d1_13) rfl (tlt hc13).2.1 ?_
  show Steps p.tables e below (T0.setTop (mkF m 16 #[s0, .val (.ref o1), .val (.int i2)] [])) _
  refine XS.aloadN X0.here hx rfl (hb hby d1_16) rfl rfl ?_
  show Steps p.tables e below (T0.setTop (mkF m 17 #[s0, .val (.ref o1), .val (.int i2)] [(.ref o1)])) _
  refine XS.iloadN X0.here hx rfl (hb hby d1_17) rfl ?_
  show Steps p.tables e below (T0.setTop (mkF m 18 #[s0, .val (.ref o1), .val (.int i2)] [(.int i2), (.ref o1)])) _
  refine X0.baloadBytes hx (j := i2) (v := (.int w2)) (by rw [e0]; exact Ar_o1.1) (State.isArrayOf_alike hZ.alike Ar_o1.2.1) Ar_o1.2.2 hin18 hat18 (g := (mkF m 18 #[s0, .val (.ref o1), .val (.int i2)] [(.int i2), (.ref o1)])) rfl rfl (hb hby d1_18) _ ?_
  show Steps p.tables e below (T0.setTop (mkF m 19 #[s0, .val (.ref o1), .val (.int i2)] [(.int w2)])) _
  refine XS.bipush X0.here hx rfl (hb hby d1_19) ?_
  show Steps p.tables e below (T0.setTop (mkF m 21 #[s0, .val (.ref o1), .val (.int i2)] [(.int (65 : Int32)), (.int w2)])) _
  refine XS.icmpYes X0.here hx rfl (pc0 := 21) (pc' := 41) rfl (hb hby d1_21) rfl (tlt hc21).1 (by decide) (by decide) ?_
  show Steps p.tables e below (T0.setTop (mkF m 41 #[s0, .val (.ref o1), .val (.int i2)] [])) _
  refine XS.iinc X0.here hx rfl (hb hby d1_41) rfl (l' := #[s0, .val (.ref o1), .val (.int (i2 + (1 : Int32)))]) rfl ?_
  show Steps p.tables e below (T0.setTop (mkF m 44 #[s0, .val (.ref o1), .val (.int (i2 + (1 : Int32)))] [])) _
  refine XS.goto X0.here hx rfl (pc0 := 44) (pc' := 10) rfl (hb hby d1_44) (by decide) (by decide) ?_
  exact kt
theorem d1_24 : decode prog_5_method_2_code 24 = .ok (.aload_n 1, 1) := by decide +kernel
theorem d1_25 : decode prog_5_method_2_code 25 = .ok (.iload_n 2, 1) := by decide +kernel
theorem d1_26 : decode prog_5_method_2_code 26 = .ok (.baload, 1) := by decide +kernel
theorem d1_27 : decode prog_5_method_2_code 27 = .ok (.bipush 90, 2) := by decide +kernel
theorem d1_29 : decode prog_5_method_2_code 29 = .ok (.if_icmp .gt 12, 3) := by decide +kernel
set_option maxRecDepth 65536 in
set_option maxHeartbeats 40000000 in
theorem own_l2 {p : Program} {l : Launch} {e : Env} {R : Room} {s : State} {m : MethodId} {args : Array Value} {below : List Frame} {meth : Method} {c : Code} {T0 : State} {locs : List Loc} {cells slots : Nat} {Z : State} {a0 : Array Value} {h0 : Heap} (s0 : Slot) (o1 : Addr) (i2 : Int32) (cl_o1 : Cell) (z_o1 : Int32) (w2 : Int32) (w3 : Int32)
    (X0 : Stand p l e R s m args below meth c T0 locs cells slots) (hx : p.tables.exec = Jvm.exec) (hZ : Z.Warmed39 s.vm) (hw : ∀ d ∈ tables_1, d.before a0 Z = true) (hby : c.code = prog_5_method_2_code) (hml : c.maxLocals = 3) (hown : s.vm.findClass "com/example/skwash/skwash/command/Glob" = some m.cls) (e0 : T0.heap = h0) (Ar_o1 : Arr Z h0 o1 cl_o1 .byte) (S_o1 : cl_o1.slots.size = z_o1.toNatClampNeg) (N_o1 : ¬ z_o1 < 0) (hin18 : ¬ (i2 < 0 ∨ cl_o1.slots.size ≤ (i2).toNatClampNeg)) (hat18 : cl_o1.slots[(i2).toNatClampNeg]? = some (.int w2)) (hin26 : ¬ (i2 < 0 ∨ cl_o1.slots.size ≤ (i2).toNatClampNeg)) (hat26 : cl_o1.slots[(i2).toNatClampNeg]? = some (.int w3)) (hc13 : i2 < z_o1) (hc21 : ¬ (w2 < (65 : Int32))) (hc29 : (90 : Int32) < w3) :
    ∃ (T' : State), Stand p l e R s m args below meth c T' locs cells slots ∧ T'.heap = h0 ∧
      ∀ target, Steps p.tables e below (T'.setTop (mkF m 10 #[s0, .val (.ref o1), .val (.int (i2 + (1 : Int32)))] [])) target → Steps p.tables e below (T0.setTop (mkF m 10 #[s0, .val (.ref o1), .val (.int i2)] [])) target := by

  refine ⟨T0, X0, e0, fun target kt => ?_⟩
  show Steps p.tables e below (T0.setTop (mkF m 10 #[s0, .val (.ref o1), .val (.int i2)] [])) _
  refine XS.iloadN X0.here hx rfl (hb hby d1_10) rfl ?_
  show Steps p.tables e below (T0.setTop (mkF m 11 #[s0, .val (.ref o1), .val (.int i2)] [(.int i2)])) _
  refine XS.aloadN X0.here hx rfl (hb hby d1_11) rfl rfl ?_
  show Steps p.tables e below (T0.setTop (mkF m 12 #[s0, .val (.ref o1), .val (.int i2)] [(.ref o1), (.int i2)])) _
  refine X0.arraylength hx (by rw [e0]; exact Ar_o1.1) (State.isArrayOf_alike hZ.alike Ar_o1.2.1) (g := (mkF m 12 #[s0, .val (.ref o1), .val (.int i2)] [(.ref o1), (.int i2)])) rfl rfl (hb hby d1_12) _ ?_
  rw [len_of S_o1 N_o1]
  show Steps p.tables e below (T0.setTop (mkF m 13 #[s0, .val (.ref o1), .val (.int i2)] [(.int z_o1), (.int i2)])) _
  refine XS.icmpNo X0.here hx rfl (hb hby d1_13) rfl (tlt hc13).2.1 ?_
  show Steps p.tables e below (T0.setTop (mkF m 16 #[s0, .val (.ref o1), .val (.int i2)] [])) _
  refine XS.aloadN X0.here hx rfl (hb hby d1_16) rfl rfl ?_
  show Steps p.tables e below (T0.setTop (mkF m 17 #[s0, .val (.ref o1), .val (.int i2)] [(.ref o1)])) _
  refine XS.iloadN X0.here hx rfl (hb hby d1_17) rfl ?_
  show Steps p.tables e below (T0.setTop (mkF m 18 #[s0, .val (.ref o1), .val (.int i2)] [(.int i2), (.ref o1)])) _
  refine X0.baloadBytes hx (j := i2) (v := (.int w2)) (by rw [e0]; exact Ar_o1.1) (State.isArrayOf_alike hZ.alike Ar_o1.2.1) Ar_o1.2.2 hin18 hat18 (g := (mkF m 18 #[s0, .val (.ref o1), .val (.int i2)] [(.int i2), (.ref o1)])) rfl rfl (hb hby d1_18) _ ?_
  show Steps p.tables e below (T0.setTop (mkF m 19 #[s0, .val (.ref o1), .val (.int i2)] [(.int w2)])) _
  refine XS.bipush X0.here hx rfl (hb hby d1_19) ?_
  show Steps p.tables e below (T0.setTop (mkF m 21 #[s0, .val (.ref o1), .val (.int i2)] [(.int (65 : Int32)), (.int w2)])) _
  refine XS.icmpNo X0.here hx rfl (hb hby d1_21) rfl (flt hc21).1 ?_
  show Steps p.tables e below (T0.setTop (mkF m 24 #[s0, .val (.ref o1), .val (.int i2)] [])) _
  refine XS.aloadN X0.here hx rfl (hb hby d1_24) rfl rfl ?_
  show Steps p.tables e below (T0.setTop (mkF m 25 #[s0, .val (.ref o1), .val (.int i2)] [(.ref o1)])) _
  refine XS.iloadN X0.here hx rfl (hb hby d1_25) rfl ?_
  show Steps p.tables e below (T0.setTop (mkF m 26 #[s0, .val (.ref o1), .val (.int i2)] [(.int i2), (.ref o1)])) _
  refine X0.baloadBytes hx (j := i2) (v := (.int w3)) (by rw [e0]; exact Ar_o1.1) (State.isArrayOf_alike hZ.alike Ar_o1.2.1) Ar_o1.2.2 hin26 hat26 (g := (mkF m 26 #[s0, .val (.ref o1), .val (.int i2)] [(.int i2), (.ref o1)])) rfl rfl (hb hby d1_26) _ ?_
  show Steps p.tables e below (T0.setTop (mkF m 27 #[s0, .val (.ref o1), .val (.int i2)] [(.int w3)])) _
  refine XS.bipush X0.here hx rfl (hb hby d1_27) ?_
  show Steps p.tables e below (T0.setTop (mkF m 29 #[s0, .val (.ref o1), .val (.int i2)] [(.int (90 : Int32)), (.int w3)])) _
  refine XS.icmpYes X0.here hx rfl (pc0 := 29) (pc' := 41) rfl (hb hby d1_29) rfl (tlt hc29).2.2.1 (by decide) (by decide) ?_
  show Steps p.tables e below (T0.setTop (mkF m 41 #[s0, .val (.ref o1), .val (.int i2)] [])) _
  refine XS.iinc X0.here hx rfl (hb hby d1_41) rfl (l' := #[s0, .val (.ref o1), .val (.int (i2 + (1 : Int32)))]) rfl ?_
  show Steps p.tables e below (T0.setTop (mkF m 44 #[s0, .val (.ref o1), .val (.int (i2 + (1 : Int32)))] [])) _
  refine XS.goto X0.here hx rfl (pc0 := 44) (pc' := 10) rfl (hb hby d1_44) (by decide) (by decide) ?_
  exact kt
theorem d1_32 : decode prog_5_method_2_code 32 = .ok (.aload_n 1, 1) := by decide +kernel
theorem d1_33 : decode prog_5_method_2_code 33 = .ok (.iload_n 2, 1) := by decide +kernel
theorem d1_34 : decode prog_5_method_2_code 34 = .ok (.dup2, 1) := by decide +kernel
theorem d1_35 : decode prog_5_method_2_code 35 = .ok (.baload, 1) := by decide +kernel
theorem d1_36 : decode prog_5_method_2_code 36 = .ok (.bipush 32, 2) := by decide +kernel
theorem d1_38 : decode prog_5_method_2_code 38 = .ok (.iadd, 1) := by decide +kernel
theorem d1_39 : decode prog_5_method_2_code 39 = .ok (.i2b, 1) := by decide +kernel
theorem d1_40 : decode prog_5_method_2_code 40 = .ok (.bastore, 1) := by decide +kernel
set_option maxRecDepth 65536 in
set_option maxHeartbeats 40000000 in
theorem own_l3 {p : Program} {l : Launch} {e : Env} {R : Room} {s : State} {m : MethodId} {args : Array Value} {below : List Frame} {meth : Method} {c : Code} {T0 : State} {locs : List Loc} {cells slots : Nat} {Z : State} {a0 : Array Value} {h0 : Heap} {n0 : Nat} (s0 : Slot) (o1 : Addr) (i2 : Int32) (cl_o1 : Cell) (z_o1 : Int32) (w2 : Int32) (w3 : Int32) (w4 : Int32)
    (X0 : Stand p l e R s m args below meth c T0 locs cells slots) (hx : p.tables.exec = Jvm.exec) (hZ : Z.Warmed39 s.vm) (hw : ∀ d ∈ tables_1, d.before a0 Z = true) (hby : c.code = prog_5_method_2_code) (hml : c.maxLocals = 3) (hown : s.vm.findClass "com/example/skwash/skwash/command/Glob" = some m.cls) (e0 : T0.heap = h0) (N0 : Fr n0 locs) (Z0 : n0 ≤ h0.size) (Ar_o1 : Arr Z h0 o1 cl_o1 .byte) (S_o1 : cl_o1.slots.size = z_o1.toNatClampNeg) (N_o1 : ¬ z_o1 < 0) (hin18 : ¬ (i2 < 0 ∨ cl_o1.slots.size ≤ (i2).toNatClampNeg)) (hat18 : cl_o1.slots[(i2).toNatClampNeg]? = some (.int w2)) (hin26 : ¬ (i2 < 0 ∨ cl_o1.slots.size ≤ (i2).toNatClampNeg)) (hat26 : cl_o1.slots[(i2).toNatClampNeg]? = some (.int w3)) (hin35 : ¬ (i2 < 0 ∨ cl_o1.slots.size ≤ (i2).toNatClampNeg)) (hat35 : cl_o1.slots[(i2).toNatClampNeg]? = some (.int w4)) (hin40 : ¬ (i2 < 0 ∨ cl_o1.slots.size ≤ (i2).toNatClampNeg)) (g_o1 : n0 ≤ o1) (hc13 : i2 < z_o1) (hc21 : ¬ (w2 < (65 : Int32))) (hc29 : ¬ ((90 : Int32) < w3)) :
    ∃ (T' : State) (h' : Heap) (locs' : List Loc), Stand p l e R s m args below meth c T' locs' cells slots ∧ T'.heap = h' ∧ Fr n0 locs' ∧ n0 ≤ h'.size ∧ (Keep h0 h' [o1] ∧ Wr h0 h' o1 (i2).toNatClampNeg (.int (own_b ((w4 + (32 : Int32)).toInt8.toInt32)))) ∧
      ∀ target, Steps p.tables e below (T'.setTop (mkF m 10 #[s0, .val (.ref o1), .val (.int (i2 + (1 : Int32)))] [])) target → Steps p.tables e below (T0.setTop (mkF m 10 #[s0, .val (.ref o1), .val (.int i2)] [])) target := by
  obtain ⟨T5, h5, X5, e5, W5, st5⟩ := stB X0 hx hZ e0 Ar_o1 (j := i2) hin40 (g := (mkF m 40 #[s0, .val (.ref o1), .val (.int i2)] [(.int ((w4 + (32 : Int32)).toInt8.toInt32)), (.int i2), (.ref o1)])) rfl rfl (hb hby d1_40)
  have N5 := Fr.snoc X5 N0 g_o1
  have K5 : Keep h0 h5 [o1] := (Keep.refl h0 [o1]).wr W5 (Or.inl (List.mem_of_getElem? (i := 0) rfl))
  refine ⟨T5, _, _, X5, e5, N5, (Nat.le_trans Z0 K5.1), ⟨K5, W5⟩, fun target kt => ?_⟩
  show Steps p.tables e below (T0.setTop (mkF m 10 #[s0, .val (.ref o1), .val (.int i2)] [])) _
  refine XS.iloadN X0.here hx rfl (hb hby d1_10) rfl ?_
  show Steps p.tables e below (T0.setTop (mkF m 11 #[s0, .val (.ref o1), .val (.int i2)] [(.int i2)])) _
  refine XS.aloadN X0.here hx rfl (hb hby d1_11) rfl rfl ?_
  show Steps p.tables e below (T0.setTop (mkF m 12 #[s0, .val (.ref o1), .val (.int i2)] [(.ref o1), (.int i2)])) _
  refine X0.arraylength hx (by rw [e0]; exact Ar_o1.1) (State.isArrayOf_alike hZ.alike Ar_o1.2.1) (g := (mkF m 12 #[s0, .val (.ref o1), .val (.int i2)] [(.ref o1), (.int i2)])) rfl rfl (hb hby d1_12) _ ?_
  rw [len_of S_o1 N_o1]
  show Steps p.tables e below (T0.setTop (mkF m 13 #[s0, .val (.ref o1), .val (.int i2)] [(.int z_o1), (.int i2)])) _
  refine XS.icmpNo X0.here hx rfl (hb hby d1_13) rfl (tlt hc13).2.1 ?_
  show Steps p.tables e below (T0.setTop (mkF m 16 #[s0, .val (.ref o1), .val (.int i2)] [])) _
  refine XS.aloadN X0.here hx rfl (hb hby d1_16) rfl rfl ?_
  show Steps p.tables e below (T0.setTop (mkF m 17 #[s0, .val (.ref o1), .val (.int i2)] [(.ref o1)])) _
  refine XS.iloadN X0.here hx rfl (hb hby d1_17) rfl ?_
  show Steps p.tables e below (T0.setTop (mkF m 18 #[s0, .val (.ref o1), .val (.int i2)] [(.int i2), (.ref o1)])) _
  refine X0.baloadBytes hx (j := i2) (v := (.int w2)) (by rw [e0]; exact Ar_o1.1) (State.isArrayOf_alike hZ.alike Ar_o1.2.1) Ar_o1.2.2 hin18 hat18 (g := (mkF m 18 #[s0, .val (.ref o1), .val (.int i2)] [(.int i2), (.ref o1)])) rfl rfl (hb hby d1_18) _ ?_
  show Steps p.tables e below (T0.setTop (mkF m 19 #[s0, .val (.ref o1), .val (.int i2)] [(.int w2)])) _
  refine XS.bipush X0.here hx rfl (hb hby d1_19) ?_
  show Steps p.tables e below (T0.setTop (mkF m 21 #[s0, .val (.ref o1), .val (.int i2)] [(.int (65 : Int32)), (.int w2)])) _
  refine XS.icmpNo X0.here hx rfl (hb hby d1_21) rfl (flt hc21).1 ?_
  show Steps p.tables e below (T0.setTop (mkF m 24 #[s0, .val (.ref o1), .val (.int i2)] [])) _
  refine XS.aloadN X0.here hx rfl (hb hby d1_24) rfl rfl ?_
  show Steps p.tables e below (T0.setTop (mkF m 25 #[s0, .val (.ref o1), .val (.int i2)] [(.ref o1)])) _
  refine XS.iloadN X0.here hx rfl (hb hby d1_25) rfl ?_
  show Steps p.tables e below (T0.setTop (mkF m 26 #[s0, .val (.ref o1), .val (.int i2)] [(.int i2), (.ref o1)])) _
  refine X0.baloadBytes hx (j := i2) (v := (.int w3)) (by rw [e0]; exact Ar_o1.1) (State.isArrayOf_alike hZ.alike Ar_o1.2.1) Ar_o1.2.2 hin26 hat26 (g := (mkF m 26 #[s0, .val (.ref o1), .val (.int i2)] [(.int i2), (.ref o1)])) rfl rfl (hb hby d1_26) _ ?_
  show Steps p.tables e below (T0.setTop (mkF m 27 #[s0, .val (.ref o1), .val (.int i2)] [(.int w3)])) _
  refine XS.bipush X0.here hx rfl (hb hby d1_27) ?_
  show Steps p.tables e below (T0.setTop (mkF m 29 #[s0, .val (.ref o1), .val (.int i2)] [(.int (90 : Int32)), (.int w3)])) _
  refine XS.icmpNo X0.here hx rfl (hb hby d1_29) rfl (flt hc29).2.2.1 ?_
  show Steps p.tables e below (T0.setTop (mkF m 32 #[s0, .val (.ref o1), .val (.int i2)] [])) _
  refine XS.aloadN X0.here hx rfl (hb hby d1_32) rfl rfl ?_
  show Steps p.tables e below (T0.setTop (mkF m 33 #[s0, .val (.ref o1), .val (.int i2)] [(.ref o1)])) _
  refine XS.iloadN X0.here hx rfl (hb hby d1_33) rfl ?_
  show Steps p.tables e below (T0.setTop (mkF m 34 #[s0, .val (.ref o1), .val (.int i2)] [(.int i2), (.ref o1)])) _
  jvm_step X0.here [X0.here.top, hx, (hb hby d1_34), Value.category]
  show Steps p.tables e below (T0.setTop (mkF m 35 #[s0, .val (.ref o1), .val (.int i2)] [(.int i2), (.ref o1), (.int i2), (.ref o1)])) _
  refine X0.baloadBytes hx (j := i2) (v := (.int w4)) (by rw [e0]; exact Ar_o1.1) (State.isArrayOf_alike hZ.alike Ar_o1.2.1) Ar_o1.2.2 hin35 hat35 (g := (mkF m 35 #[s0, .val (.ref o1), .val (.int i2)] [(.int i2), (.ref o1), (.int i2), (.ref o1)])) rfl rfl (hb hby d1_35) _ ?_
  show Steps p.tables e below (T0.setTop (mkF m 36 #[s0, .val (.ref o1), .val (.int i2)] [(.int w4), (.int i2), (.ref o1)])) _
  refine XS.bipush X0.here hx rfl (hb hby d1_36) ?_
  show Steps p.tables e below (T0.setTop (mkF m 38 #[s0, .val (.ref o1), .val (.int i2)] [(.int (32 : Int32)), (.int w4), (.int i2), (.ref o1)])) _
  refine XS.iadd X0.here hx rfl (hb hby d1_38) rfl ?_
  show Steps p.tables e below (T0.setTop (mkF m 39 #[s0, .val (.ref o1), .val (.int i2)] [(.int (w4 + (32 : Int32))), (.int i2), (.ref o1)])) _
  refine XS.i2b X0.here hx rfl (hb hby d1_39) rfl ?_
  show Steps p.tables e below (T0.setTop (mkF m 40 #[s0, .val (.ref o1), .val (.int i2)] [(.int ((w4 + (32 : Int32)).toInt8.toInt32)), (.int i2), (.ref o1)])) _
  refine st5 _ ?_
  show Steps p.tables e below (T5.setTop (mkF m 41 #[s0, .val (.ref o1), .val (.int i2)] [])) _
  refine XS.iinc X5.here hx rfl (hb hby d1_41) rfl (l' := #[s0, .val (.ref o1), .val (.int (i2 + (1 : Int32)))]) rfl ?_
  show Steps p.tables e below (T5.setTop (mkF m 44 #[s0, .val (.ref o1), .val (.int (i2 + (1 : Int32)))] [])) _
  refine XS.goto X5.here hx rfl (pc0 := 44) (pc' := 10) rfl (hb hby d1_44) (by decide) (by decide) ?_
  exact kt

theorem own_step (f : Nat → Int32) (i j : Nat) : (if j < i + 1 then own_lw (f j) else f j) = if j = i then own_lw (f i) else if j < i then own_lw (f j) else f j := by
  by_cases q : j = i
  · subst q; rw [if_pos (by omega), if_pos rfl]
  · rw [if_neg q]
    by_cases r : j < i
    · rw [if_pos r, if_pos (by omega)]
    · rw [if_neg r, if_neg (by omega)]
set_option maxRecDepth 65536 in
set_option maxHeartbeats 40000000 in
theorem loop1 {p : Program} {l : Launch} {e : Env} {R : Room} {s : State} {m : MethodId} {args : Array Value} {below : List Frame} {meth : Method} {c : Code} {cells slots : Nat} {Z : State} {a0 : Array Value} {n0 : Nat} (s0 : Slot) (b : Addr) (N : Nat) (hN : N < 2147483648) (f : Nat → Int32) (hf : ∀ j, own_b (f j) = f j) (gb : n0 ≤ b) (hx : p.tables.exec = Jvm.exec) (hZ : Z.Warmed39 s.vm) (hw : ∀ d ∈ tables_1, d.before a0 Z = true) (hby : c.code = prog_5_method_2_code) (hml : c.maxLocals = 3) (hown : s.vm.findClass "com/example/skwash/skwash/command/Glob" = some m.cls) :
    ∀ (r i : Nat) (hi : i + r = N) (T0 : State) (h0 : Heap) (locs : List Loc) (X0 : Stand p l e R s m args below meth c T0 locs cells slots) (e0 : T0.heap = h0) (N0 : Fr n0 locs) (Z0 : n0 ≤ h0.size) (V : own_AF Z h0 b .byte N (fun j => .int (if j < i then own_lw (f j) else f j))),
    ∃ (T' : State) (h' : Heap) (locs' : List Loc), Stand p l e R s m args below meth c T' locs' cells slots ∧ T'.heap = h' ∧ Fr n0 locs' ∧ n0 ≤ h'.size ∧ Keep h0 h' [b] ∧ own_AF Z h' b .byte N (fun j => .int (own_lw (f j))) ∧
      ∀ target, Steps p.tables e below (T'.setTop (mkF m 47 #[s0, .val (.ref b), .val (.int (Int32.ofNat N))] [])) target → Steps p.tables e below (T0.setTop (mkF m 10 #[s0, .val (.ref b), .val (.int (Int32.ofNat i))] [])) target := by
  intro r
  induction r with
  | zero =>
    intro i hi T0 h0 locs X0 e0 N0 Z0 V
    obtain rfl : i = N := by omega
    obtain ⟨-, cl, Ar, S, H, Gf⟩ := id V
    have hc13 : ¬ (Int32.ofNat i < Int32.ofNat i) := by rw [own_ltn hN hN]; omega
    obtain ⟨T1, X1, e1, st1⟩ := own_lv s0 b (Int32.ofNat i) cl (Int32.ofNat i) X0 hx hZ hw hby hml hown e0 Ar (by rw [own_nc hN]; exact S) (own_nneg hN) hc13
    exact ⟨T1, h0, locs, X1, e1, N0, Z0, Keep.refl _ _, V.congr fun j hj => by show Value.int (if j < i then _ else _) = _; rw [if_pos hj], st1⟩
  | succ r ih =>
    intro i hi T0 h0 locs X0 e0 N0 Z0 V
    obtain ⟨-, cl, Ar, S, H, Gf⟩ := id V
    have hc13 : Int32.ofNat i < Int32.ofNat N := (own_ltn (by omega) hN).mpr (by omega)
    have hin : ¬ (Int32.ofNat i < 0 ∨ cl.slots.size ≤ (Int32.ofNat i).toNatClampNeg) := own_inb S (by omega) hN
    have hat : cl.slots[(Int32.ofNat i).toNatClampNeg]? = some (.int (f i)) := by
      rw [own_nc (by omega), H i (by omega)]
      show some (Value.int (if i < i then _ else _)) = _
      rw [if_neg (by omega)]
    by_cases c1 : f i < (65 : Int32)
    · obtain ⟨T1, X1, e1, st1⟩ := own_l1 s0 b (Int32.ofNat i) cl (Int32.ofNat N) (f i) X0 hx hZ hw hby hml hown e0 Ar (by rw [own_nc hN]; exact S) (own_nneg hN) hin hat hc13 c1
      have V1 : own_AF Z h0 b .byte N (fun j => .int (if j < i + 1 then own_lw (f j) else f j)) := V.congr fun j hj => by
        show Value.int _ = Value.int _
        rw [own_step]; by_cases q : j = i
        · subst q; rw [if_neg (by omega), if_pos rfl, show own_lw (f j) = f j from if_pos c1]
        · rw [if_neg q]
      obtain ⟨T2, h2, l2, X2, e2, N2, Z2, K2, V2, st2⟩ := ih (i + 1) (by omega) T1 h0 locs X1 e1 N0 Z0 V1
      refine ⟨T2, h2, l2, X2, e2, N2, Z2, K2, V2, fun target kt => st1 target ?_⟩
      rw [own_add1]; exact st2 target kt
    · by_cases c2 : (90 : Int32) < f i
      · obtain ⟨T1, X1, e1, st1⟩ := own_l2 s0 b (Int32.ofNat i) cl (Int32.ofNat N) (f i) (f i) X0 hx hZ hw hby hml hown e0 Ar (by rw [own_nc hN]; exact S) (own_nneg hN) hin hat hin hat hc13 c1 c2
        have V1 : own_AF Z h0 b .byte N (fun j => .int (if j < i + 1 then own_lw (f j) else f j)) := V.congr fun j hj => by
          show Value.int _ = Value.int _
          rw [own_step]; by_cases q : j = i
          · subst q; rw [if_neg (by omega), if_pos rfl, show own_lw (f j) = f j by unfold own_lw; rw [if_neg c1, if_pos c2]]
          · rw [if_neg q]
        obtain ⟨T2, h2, l2, X2, e2, N2, Z2, K2, V2, st2⟩ := ih (i + 1) (by omega) T1 h0 locs X1 e1 N0 Z0 V1
        refine ⟨T2, h2, l2, X2, e2, N2, Z2, K2, V2, fun target kt => st1 target ?_⟩
        rw [own_add1]; exact st2 target kt
      · obtain ⟨T1, h1, l1, X1, e1, N1, Z1, ⟨K1, W1⟩, st1⟩ := own_l3 s0 b (Int32.ofNat i) cl (Int32.ofNat N) (f i) (f i) (f i) X0 hx hZ hw hby hml hown e0 N0 Z0 Ar (by rw [own_nc hN]; exact S) (own_nneg hN) hin hat hin hat hin hat hin gb hc13 c1 c2
        rw [own_nc (by omega)] at W1
        have V1 : own_AF Z h1 b .byte N (fun j => .int (if j < i + 1 then own_lw (f j) else f j)) := (V.set W1 (by omega) (fits_nar_byte _)).congr fun j hj => by
          rw [own_step]; show (if j = i then _ else Value.int _) = Value.int _
          by_cases q : j = i
          · rw [if_pos q, if_pos q]; show Value.int _ = Value.int _
            rw [show own_lw (f i) = own_b (own_b (f i + 32)) by unfold own_lw; rw [if_neg c1, if_neg c2]]; rfl
          · rw [if_neg q, if_neg q]
        obtain ⟨T2, h2, l2, X2, e2, N2, Z2, K2, V2, st2⟩ := ih (i + 1) (by omega) T1 h1 l1 X1 e1 N1 Z1 V1
        refine ⟨T2, h2, l2, X2, e2, N2, Z2, K1.trans K2 (allS (Or.inl (List.mem_singleton.mpr rfl)) all0), V2, fun target kt => st1 target ?_⟩
        rw [own_add1]; exact st2 target kt
theorem d1_0 : decode prog_5_method_2_code 0 = .ok (.aload_n 0, 1) := by decide +kernel
theorem d1_1 : decode prog_5_method_2_code 1 = .ok (.invokevirtual 7, 3) := by decide +kernel
theorem d1_4 : decode prog_5_method_2_code 4 = .ok (.checkcast 8, 3) := by decide +kernel
theorem d1_7 : decode prog_5_method_2_code 7 = .ok (.astore_n 1, 1) := by decide +kernel
theorem d1_8 : decode prog_5_method_2_code 8 = .ok (.iconst 0, 1) := by decide +kernel
theorem d1_9 : decode prog_5_method_2_code 9 = .ok (.istore_n 2, 1) := by decide +kernel
theorem d1_47 : decode prog_5_method_2_code 47 = .ok (.aload_n 1, 1) := by decide +kernel
theorem d1_48 : decode prog_5_method_2_code 48 = .ok (.areturn, 1) := by decide +kernel
theorem pn_1 : plainName "com/example/skwash/skwash/command/Glob" = true := by first | (simp [plainName, overriddenIn]; done) | decide +kernel
theorem ef_1 (m : MethodId) (x0 : Addr) : entryFrame m #[(.ref x0)] 3 = mkF m 0 #[.val (.ref x0), .unset, .unset] [] := by first | (simp [entryFrame, mkF, argsToLocals, Value.category]; done) | rfl

def Q1 (Z : State) (N : Nat) (f : Nat → Int32) (h0 : Heap) (n0 : Nat) (v : Option Value) (h : Heap) (L : List Loc) : Prop := ∃ b : Addr, v = some (.ref b) ∧ Fr n0 L ∧ Keep h0 h [] ∧ own_AF Z h b .byte N (fun j => .int (own_lw (f j)))
set_option maxRecDepth 65536 in
set_option maxHeartbeats 40000000 in
theorem rm1 (l : Launch) (Z : State) (a0 : Array Value) (hw : ∀ d ∈ tables_1, d.before a0 Z = true) (ws : List Jvm.Cond) (a1 : Addr) (N : Nat) (hN : N ≤ 4) (f : Nat → Int32) (hf : ∀ j, own_b (f j) = f j) (h0 : Heap) (n0 : Nat) (Z0 : n0 ≤ h0.size) (V : own_AF Z h0 a1 .byte N (fun j => .int (f j))) (Ex : Exa Z h0 a1 "[B") :
    MetFree l (⟨"com/example/skwash/skwash/command/Glob", "lowerCase", "([B)[B"⟩ : MethodName) (head1 (Jvm.Cond.code (⟨"com/example/skwash/skwash/command/Glob", "lowerCase", "([B)[B"⟩ : MethodName) prog_5_method_2_code 3 (some (.array .byte)) :: ws) ({ frames := 1, cells := 1, slots := 4, locals := 14 } : Room)) (fun a U => a = #[(.ref a1)] ∧ Z.Warmed39 U.vm ∧ U.heap = h0) (fun _ _ _ _ _ => True) (fun _ U o U' => ∃ v L, o = .returned v ∧ Q1 Z N f h0 n0 v U'.heap L ∧ FrameEnd U o U' L ({ frames := 1, cells := 1, slots := 4, locals := 14 } : Room).cells ({ frames := 1, cells := 1, slots := 4, locals := 14 } : Room).slots) := by
  refine MetFree.of_bodySF (plainFor_of_name pn_1) hisR ?_
  intro p e s m args below meth c s₁ Bd hml0 hP hK
  obtain ⟨rfl, hZ, hh⟩ := hP
  have hx := Bd.exec
  have hby := Bd.bytes
  have hml : c.maxLocals = 3 := hml0
  have hown : s.vm.findClass "com/example/skwash/skwash/command/Glob" = some m.cls := findClass_of_methodNamed Bd.named
  have X0 : Stand p l e ({ frames := 1, cells := 1, slots := 4, locals := 14 } : Room) s m #[(.ref a1)] below meth c s₁ [] 0 0 := Stand.of_body Bd
  have e0 : s₁.heap = h0 := by rw [← hh, Bd.state]; rfl
  have N0 := Fr.nil n0
  have pre0 : ∀ t, Steps p.tables e below (s₁.setTop (mkF m 0 #[.val (.ref a1), .unset, .unset] [])) t → Steps p.tables e below (s₁.setTop (entryFrame m #[(.ref a1)] 3)) t := fun t k => castTop (ef_1 m a1) k
  obtain ⟨hN2, cl, Ar, S, H, Gf⟩ := id V
  have FC : FitC Z cl := fitC_of Ar fun i hi v hv => by
    rw [S] at hi; rw [H i hi] at hv; cases hv; exact Gf i hi
  obtain ⟨T1, h1, X1, e1, E1, A1, Ex1, st1⟩ := cloneA X0 hx hZ hown (hw _ (List.mem_of_getElem? (i := 6) rfl)) (hw _ (List.mem_of_getElem? (i := 7) rfl)) (hw _ (List.mem_of_getElem? (i := 11) rfl)) (hw _ (List.mem_of_getElem? (i := 9) rfl)) (hw _ (List.mem_of_getElem? (i := 10) rfl)) (hw _ (List.mem_of_getElem? (i := 12) rfl)) e0 Ar Ex FC (g := (mkF m 1 #[.val (.ref a1), .unset, .unset] [(.ref a1)])) rfl (by rw [hml]; rfl) rfl (hb hby d1_1) (by decide) (W := 0) (cap := 4) (by show 2 * 0 + _ ≤ _; exact Nat.le_of_eq rfl) (by decide) (by rw [S]; exact hN) (by decide) (by decide)
  obtain ⟨b, gb⟩ : ∃ z, z = h0.size := ⟨_, rfl⟩
  rw [← gb] at A1 Ex1 st1
  have gn : n0 ≤ b := Nat.le_trans Z0 (Nat.le_of_eq gb.symm)
  obtain ⟨T2, X2, e2, st2⟩ := castY X1 hx hZ hown (hw _ (List.mem_of_getElem? (i := 13) rfl)) e1 (Ins.self Ex1) (g := (mkF m 4 #[.val (.ref a1), .unset, .unset] [(.ref b)])) rfl rfl (hb hby d1_4)
  have V1 : own_AF Z h1 b .byte N (fun j => .int (if j < 0 then own_lw (f j) else f j)) := ⟨hN2, cloneOf cl, A1, S, fun j hj => by show (cloneOf cl).slots[j]? = some (Value.int (if j < 0 then own_lw (f j) else f j)); rw [if_neg (by omega)]; exact H j hj, fun j hj => by show fits .byte (Value.int (if j < 0 then own_lw (f j) else f j)) = true; rw [if_neg (by omega)]; exact Gf j hj⟩
  obtain ⟨T3, h3, l3, X3, e3, N3, Z3, K3, V3, st3⟩ := loop1 (.val (.ref a1)) b N hN2 f hf gn hx hZ hw hby hml hown N 0 (by omega) T2 h1 [] X2 e2 N0 (Nat.le_trans Z0 E1.1) V1
  obtain ⟨fs, hr, hrun, hended, hW, hsame⟩ := X3.leave (v := some (.ref b)) (fun h => by rw [Bd.returns] at h; cases h)
  refine ⟨_, _, pre0 _ ?_, hrun, hended, _, _, rfl, ?_, ⟨_, rfl⟩, hW, hsame.mono (by decide) (by decide)⟩
  · show Steps p.tables e below (s₁.setTop (mkF m 0 #[.val (.ref a1), .unset, .unset] [])) _
    refine XS.aloadN X0.here hx rfl (hb hby d1_0) rfl rfl ?_
    show Steps p.tables e below (s₁.setTop (mkF m 1 #[.val (.ref a1), .unset, .unset] [(.ref a1)])) _
    refine st1 _ ?_
    show Steps p.tables e below (T1.setTop (mkF m 4 #[.val (.ref a1), .unset, .unset] [(.ref b)])) _
    refine st2 _ ?_
    show Steps p.tables e below (T2.setTop (mkF m 7 #[.val (.ref a1), .unset, .unset] [(.ref b)])) _
    refine XS.astoreN X2.here hx rfl (hb hby d1_7) rfl rfl (l' := #[.val (.ref a1), .val (.ref b), .unset]) rfl ?_
    show Steps p.tables e below (T2.setTop (mkF m 8 #[.val (.ref a1), .val (.ref b), .unset] [])) _
    refine XS.iconst X2.here hx rfl (hb hby d1_8) ?_
    show Steps p.tables e below (T2.setTop (mkF m 9 #[.val (.ref a1), .val (.ref b), .unset] [(.int (0 : Int32))])) _
    refine XS.istoreN X2.here hx rfl (hb hby d1_9) rfl (l' := #[.val (.ref a1), .val (.ref b), .val (.int (0 : Int32))]) rfl ?_
    refine st3 _ ?_
    refine XS.aloadN X3.here hx rfl (hb hby d1_47) rfl rfl ?_
    show Steps p.tables e below (T3.setTop (mkF m 48 #[.val (.ref a1), .val (.ref b), .val (.int (Int32.ofNat N))] [(.ref b)])) _
    jvm_step X3.here [X3.here.top, hx, (hb hby d1_48), X3.method', Bd.returns, Value.isRef, FieldType.isReference]
    first | (intro acts; rw [hr _ acts rfl rfl rfl]) | rw [hr _ _ rfl rfl rfl]
    exact Steps.refl _
  · show Q1 Z N f h0 n0 _ T3.heap _
    rw [e3]
    exact ⟨b, rfl, N3, ((Keep.refl h0 []).ext E1).trans K3 (allS (Or.inr (Nat.le_of_eq gb.symm)) all0), V3⟩
theorem d2_0 : decode method_3_code 0 = .ok (.iload_n 2, 1) := by decide +kernel
theorem d2_1 : decode method_3_code 1 = .ok (.iload_n 3, 1) := by decide +kernel
theorem d2_2 : decode method_3_code 2 = .ok (.if_icmp .lt 5, 3) := by decide +kernel
theorem d2_5 : decode method_3_code 5 = .ok (.iconst 1, 1) := by decide +kernel
theorem d2_6 : decode method_3_code 6 = .ok (.ireturn, 1) := by decide +kernel
theorem pn_2 : plainName "com/example/skwash/skwash/command/GlobLowerCasePinLaw" = true := by first | (simp [plainName, overriddenIn]; done) | decide +kernel
theorem ef_2 (m : MethodId) (x0 : Addr) (x1 : Addr) (x2 : Int32) (x3 : Int32) (x4 : Int32) : entryFrame m #[(.ref x0), (.ref x1), (.int x2), (.int x3), (.int x4)] 5 = mkF m 0 #[.val (.ref x0), .val (.ref x1), .val (.int x2), .val (.int x3), .val (.int x4)] [] := by first | (simp [entryFrame, mkF, argsToLocals, Value.category]; done) | rfl
def Q2n (Z : State) (a1 : Addr) (a2 : Addr) (p3 : Int32) (p4 : Int32) (p5 : Int32) (h0 : Heap) (n0 : Nat) (v : Option Value) (h : Heap) (L : List Loc) : Prop := v = some (.int (1 : Int32)) ∧ Fr n0 L ∧ h = h0
set_option maxRecDepth 65536 in
set_option maxHeartbeats 40000000 in
theorem rm2n (l : Launch) (Z : State) (a0 : Array Value) (hw : ∀ d ∈ tables_1, d.before a0 Z = true) (ws : List Jvm.Cond) (a1 : Addr) (a2 : Addr) (p3 : Int32) (p4 : Int32) (p5 : Int32) (h0 : Heap) (n0 : Nat) (Z0 : n0 ≤ h0.size) (hc2 : ¬ (p3 < p4)) :
    MetFree l (⟨"com/example/skwash/skwash/command/GlobLowerCasePinLaw", "ok", "([B[BIIB)Z"⟩ : MethodName) (head1 (Jvm.Cond.code (⟨"com/example/skwash/skwash/command/GlobLowerCasePinLaw", "ok", "([B[BIIB)Z"⟩ : MethodName) method_3_code 5 (some .boolean) :: ws) ({ frames := 1, cells := 0, slots := 0, locals := 13 } : Room)) (fun a U => a = #[(.ref a1), (.ref a2), (.int p3), (.int p4), (.int p5)] ∧ Z.Warmed39 U.vm ∧ U.heap = h0) (fun _ _ _ _ _ => True) (fun _ U o U' => ∃ v L, o = .returned v ∧ Q2n Z a1 a2 p3 p4 p5 h0 n0 v U'.heap L ∧ FrameEnd U o U' L ({ frames := 1, cells := 0, slots := 0, locals := 13 } : Room).cells ({ frames := 1, cells := 0, slots := 0, locals := 13 } : Room).slots) := by
  refine MetFree.of_bodySF (plainFor_of_name pn_2) hisR ?_
  intro p e s m args below meth c s₁ Bd hml0 hP hK
  obtain ⟨rfl, hZ, hh⟩ := hP
  have hx := Bd.exec
  have hby := Bd.bytes
  have hml : c.maxLocals = 5 := hml0
  have hown : s.vm.findClass "com/example/skwash/skwash/command/GlobLowerCasePinLaw" = some m.cls := findClass_of_methodNamed Bd.named
  have hnm := (name_of_methodNamed Bd.named Bd.method).1
  have X0 : Stand p l e ({ frames := 1, cells := 0, slots := 0, locals := 13 } : Room) s m #[(.ref a1), (.ref a2), (.int p3), (.int p4), (.int p5)] below meth c s₁ [] 0 0 := Stand.of_body Bd
  have e0 : s₁.heap = h0 := by rw [← hh, Bd.state]; rfl
  have N0 := Fr.nil n0
  have pre0 : ∀ t, Steps p.tables e below (s₁.setTop (mkF m 0 #[.val (.ref a1), .val (.ref a2), .val (.int p3), .val (.int p4), .val (.int p5)] [])) t → Steps p.tables e below (s₁.setTop (entryFrame m #[(.ref a1), (.ref a2), (.int p3), (.int p4), (.int p5)] 5)) t := fun t k => castTop (ef_2 m a1 a2 p3 p4 p5) k

  obtain ⟨fs, hr, hrun, hended, hW, hsame⟩ := X0.leave (v := some (.int (1 : Int32))) (fun h => by rw [Bd.returns] at h; cases h)
  refine ⟨_, _, pre0 _ ?_, hrun, hended, _, _, rfl, ?_, ⟨_, rfl⟩, hW, hsame.mono (by decide) (by decide)⟩
  · show Steps p.tables e below (s₁.setTop (mkF m 0 #[.val (.ref a1), .val (.ref a2), .val (.int p3), .val (.int p4), .val (.int p5)] [])) _
    refine XS.iloadN X0.here hx rfl (hb hby d2_0) rfl ?_
    show Steps p.tables e below (s₁.setTop (mkF m 1 #[.val (.ref a1), .val (.ref a2), .val (.int p3), .val (.int p4), .val (.int p5)] [(.int p3)])) _
    refine XS.iloadN X0.here hx rfl (hb hby d2_1) rfl ?_
    show Steps p.tables e below (s₁.setTop (mkF m 2 #[.val (.ref a1), .val (.ref a2), .val (.int p3), .val (.int p4), .val (.int p5)] [(.int p4), (.int p3)])) _
    refine XS.icmpNo X0.here hx rfl (hb hby d2_2) rfl (flt hc2).1 ?_
    show Steps p.tables e below (s₁.setTop (mkF m 5 #[.val (.ref a1), .val (.ref a2), .val (.int p3), .val (.int p4), .val (.int p5)] [])) _
    refine XS.iconst X0.here hx rfl (hb hby d2_5) ?_
    show Steps p.tables e below (s₁.setTop (mkF m 6 #[.val (.ref a1), .val (.ref a2), .val (.int p3), .val (.int p4), .val (.int p5)] [(.int (1 : Int32))])) _
    exact retN X0 hx (t := .boolean) Bd.returns (by simp) (hb hby d2_6) hr
  · show Q2n Z a1 a2 p3 p4 p5 h0 n0 _ s₁.heap _
    rw [e0]
    exact ⟨rfl, N0, rfl⟩
theorem d2_7 : decode method_3_code 7 = .ok (.aload_n 0, 1) := by decide +kernel
theorem d2_8 : decode method_3_code 8 = .ok (.iload_n 2, 1) := by decide +kernel
theorem d2_9 : decode method_3_code 9 = .ok (.baload, 1) := by decide +kernel
theorem d2_10 : decode method_3_code 10 = .ok (.iload 4, 2) := by decide +kernel
theorem d2_12 : decode method_3_code 12 = .ok (.if_icmp .ne 18, 3) := by decide +kernel
theorem d2_15 : decode method_3_code 15 = .ok (.aload_n 1, 1) := by decide +kernel
theorem d2_16 : decode method_3_code 16 = .ok (.iload_n 2, 1) := by decide +kernel
theorem d2_17 : decode method_3_code 17 = .ok (.baload, 1) := by decide +kernel
theorem d2_18 : decode method_3_code 18 = .ok (.iload 4, 2) := by decide +kernel
theorem d2_20 : decode method_3_code 20 = .ok (.invokestatic 7, 3) := by decide +kernel
theorem d2_23 : decode method_3_code 23 = .ok (.if_icmp .ne 7, 3) := by decide +kernel
theorem d2_26 : decode method_3_code 26 = .ok (.iconst 1, 1) := by decide +kernel
theorem d2_27 : decode method_3_code 27 = .ok (.goto 4, 3) := by decide +kernel
theorem d2_31 : decode method_3_code 31 = .ok (.ireturn, 1) := by decide +kernel
theorem pd_2_3 : parseMethodDescriptor "(B)B" = some ⟨[.byte], some .byte⟩ := by decide +kernel
def Q2y (Z : State) (a1 : Addr) (a2 : Addr) (p3 : Int32) (p4 : Int32) (p5 : Int32) (w6 : Int32) (cl_a1 : Cell) (w7 : Int32) (cl_a2 : Cell) (h0 : Heap) (n0 : Nat) (v : Option Value) (h : Heap) (L : List Loc) : Prop := v = some (.int (1 : Int32)) ∧ Fr n0 L ∧ h = h0
set_option maxRecDepth 65536 in
set_option maxHeartbeats 40000000 in
theorem rm2y (l : Launch) (Z : State) (a0 : Array Value) (hw : ∀ d ∈ tables_1, d.before a0 Z = true) (ws : List Jvm.Cond) (a1 : Addr) (a2 : Addr) (p3 : Int32) (p4 : Int32) (p5 : Int32) (w6 : Int32) (cl_a1 : Cell) (w7 : Int32) (cl_a2 : Cell) (h0 : Heap) (n0 : Nat) (Z0 : n0 ≤ h0.size) (hlw : w7 = own_f3 p5) (Ar_a1 : Arr Z h0 a1 cl_a1 .byte) (hin9 : ¬ (p3 < 0 ∨ cl_a1.slots.size ≤ (p3).toNatClampNeg)) (hat9 : cl_a1.slots[(p3).toNatClampNeg]? = some (.int w6)) (Ar_a2 : Arr Z h0 a2 cl_a2 .byte) (hin17 : ¬ (p3 < 0 ∨ cl_a2.slots.size ≤ (p3).toNatClampNeg)) (hat17 : cl_a2.slots[(p3).toNatClampNeg]? = some (.int w7)) (hc2 : p3 < p4) (hc12 : w6 = p5) :
    MetFree l (⟨"com/example/skwash/skwash/command/GlobLowerCasePinLaw", "ok", "([B[BIIB)Z"⟩ : MethodName) (head1 (Jvm.Cond.code (⟨"com/example/skwash/skwash/command/GlobLowerCasePinLaw", "ok", "([B[BIIB)Z"⟩ : MethodName) method_3_code 5 (some .boolean) :: ws) ({ frames := 1, cells := 0, slots := 0, locals := 13 } : Room)) (fun a U => a = #[(.ref a1), (.ref a2), (.int p3), (.int p4), (.int p5)] ∧ Z.Warmed39 U.vm ∧ U.heap = h0) (fun _ _ _ _ _ => True) (fun _ U o U' => ∃ v L, o = .returned v ∧ Q2y Z a1 a2 p3 p4 p5 w6 cl_a1 w7 cl_a2 h0 n0 v U'.heap L ∧ FrameEnd U o U' L ({ frames := 1, cells := 0, slots := 0, locals := 13 } : Room).cells ({ frames := 1, cells := 0, slots := 0, locals := 13 } : Room).slots) := by
  refine MetFree.of_bodySF (plainFor_of_name pn_2) hisR ?_
  intro p e s m args below meth c s₁ Bd hml0 hP hK
  obtain ⟨rfl, hZ, hh⟩ := hP
  have hx := Bd.exec
  have hby := Bd.bytes
  have hml : c.maxLocals = 5 := hml0
  have hown : s.vm.findClass "com/example/skwash/skwash/command/GlobLowerCasePinLaw" = some m.cls := findClass_of_methodNamed Bd.named
  have hnm := (name_of_methodNamed Bd.named Bd.method).1
  have X0 : Stand p l e ({ frames := 1, cells := 0, slots := 0, locals := 13 } : Room) s m #[(.ref a1), (.ref a2), (.int p3), (.int p4), (.int p5)] below meth c s₁ [] 0 0 := Stand.of_body Bd
  have e0 : s₁.heap = h0 := by rw [← hh, Bd.state]; rfl
  have N0 := Fr.nil n0
  have pre0 : ∀ t, Steps p.tables e below (s₁.setTop (mkF m 0 #[.val (.ref a1), .val (.ref a2), .val (.int p3), .val (.int p4), .val (.int p5)] [])) t → Steps p.tables e below (s₁.setTop (entryFrame m #[(.ref a1), (.ref a2), (.int p3), (.int p4), (.int p5)] 5)) t := fun t k => castTop (ef_2 m a1 a2 p3 p4 p5) k
  obtain ⟨_, _, ⟨T8, L8, k8, n8⟩, -, X8, ⟨Lc8, hQ8, l8, y8, z8⟩, st8⟩ := Jvm.LawKit.callS X0 hx (y := (⟨"com/example/skwash/skwash/command/GlobLowerCasePinLaw", "lower", "(B)B"⟩ : MethodName)) hown (mvT hZ (hw _ (List.mem_of_getElem? (i := 19) rfl))) (mvT hZ (hw _ (List.mem_of_getElem? (i := 20) rfl))) (mvT hZ (hw _ (List.mem_of_getElem? (i := 17) rfl))) (mvT hZ (hw _ (List.mem_of_getElem? (i := 21) rfl))) (by decide) (backOf (W := 1) (rm3 l Z a0 hw [] p5 h0 n0 Z0) hZ (hw _ (List.mem_of_getElem? (i := 21) rfl)) (hw _ (List.mem_of_getElem? (i := 17) rfl)) (by decide) (by decide)) (g := (mkF m 20 #[.val (.ref a1), .val (.ref a2), .val (.int p3), .val (.int p4), .val (.int p5)] [(.int p5), (.int w7)])) rfl (by rw [hml]; rfl) (argsL := [(.int p5)]) (rest := [(.int w7)]) (lenOf pd_2_3 rfl) rfl (by show 2 * 0 + _ ≤ _; exact Nat.le_of_eq rfl) (hb hby d2_20) (fun _ _ => ⟨rfl, e0, (by decide : 0 + 0 ≤ _), (by decide : 0 + 0 ≤ _)⟩)
  dsimp only [Pt.U, Pt.locs, Pt.cells, Pt.slots] at X8 l8 y8 z8 st8 hQ8
  subst l8 y8 z8
  obtain ⟨rfl, N8q, q8⟩ := hQ8
  have N8 := Fr.app N0 N8q
  obtain ⟨fs, hr, hrun, hended, hW, hsame⟩ := X8.leave (v := some (.int (1 : Int32))) (fun h => by rw [Bd.returns] at h; cases h)
  refine ⟨_, _, pre0 _ ?_, hrun, hended, _, _, rfl, ?_, ⟨_, rfl⟩, hW, hsame.mono (by decide) (by decide)⟩
  · show Steps p.tables e below (s₁.setTop (mkF m 0 #[.val (.ref a1), .val (.ref a2), .val (.int p3), .val (.int p4), .val (.int p5)] [])) _
    refine XS.iloadN X0.here hx rfl (hb hby d2_0) rfl ?_
    show Steps p.tables e below (s₁.setTop (mkF m 1 #[.val (.ref a1), .val (.ref a2), .val (.int p3), .val (.int p4), .val (.int p5)] [(.int p3)])) _
    refine XS.iloadN X0.here hx rfl (hb hby d2_1) rfl ?_
    show Steps p.tables e below (s₁.setTop (mkF m 2 #[.val (.ref a1), .val (.ref a2), .val (.int p3), .val (.int p4), .val (.int p5)] [(.int p4), (.int p3)])) _
    refine XS.icmpYes X0.here hx rfl (pc0 := 2) (pc' := 7) rfl (hb hby d2_2) rfl (tlt hc2).1 (by decide) (by decide) ?_
    show Steps p.tables e below (s₁.setTop (mkF m 7 #[.val (.ref a1), .val (.ref a2), .val (.int p3), .val (.int p4), .val (.int p5)] [])) _
    refine XS.aloadN X0.here hx rfl (hb hby d2_7) rfl rfl ?_
    show Steps p.tables e below (s₁.setTop (mkF m 8 #[.val (.ref a1), .val (.ref a2), .val (.int p3), .val (.int p4), .val (.int p5)] [(.ref a1)])) _
    refine XS.iloadN X0.here hx rfl (hb hby d2_8) rfl ?_
    show Steps p.tables e below (s₁.setTop (mkF m 9 #[.val (.ref a1), .val (.ref a2), .val (.int p3), .val (.int p4), .val (.int p5)] [(.int p3), (.ref a1)])) _
    refine X0.baloadBytes hx (j := p3) (v := (.int w6)) (by rw [e0]; exact Ar_a1.1) (State.isArrayOf_alike hZ.alike Ar_a1.2.1) Ar_a1.2.2 hin9 hat9 (g := (mkF m 9 #[.val (.ref a1), .val (.ref a2), .val (.int p3), .val (.int p4), .val (.int p5)] [(.int p3), (.ref a1)])) rfl rfl (hb hby d2_9) _ ?_
    show Steps p.tables e below (s₁.setTop (mkF m 10 #[.val (.ref a1), .val (.ref a2), .val (.int p3), .val (.int p4), .val (.int p5)] [(.int w6)])) _
    refine XS.iload X0.here hx rfl (hb hby d2_10) rfl ?_
    show Steps p.tables e below (s₁.setTop (mkF m 12 #[.val (.ref a1), .val (.ref a2), .val (.int p3), .val (.int p4), .val (.int p5)] [(.int p5), (.int w6)])) _
    refine XS.icmpNo X0.here hx rfl (hb hby d2_12) rfl (teq hc12).2 ?_
    show Steps p.tables e below (s₁.setTop (mkF m 15 #[.val (.ref a1), .val (.ref a2), .val (.int p3), .val (.int p4), .val (.int p5)] [])) _
    refine XS.aloadN X0.here hx rfl (hb hby d2_15) rfl rfl ?_
    show Steps p.tables e below (s₁.setTop (mkF m 16 #[.val (.ref a1), .val (.ref a2), .val (.int p3), .val (.int p4), .val (.int p5)] [(.ref a2)])) _
    refine XS.iloadN X0.here hx rfl (hb hby d2_16) rfl ?_
    show Steps p.tables e below (s₁.setTop (mkF m 17 #[.val (.ref a1), .val (.ref a2), .val (.int p3), .val (.int p4), .val (.int p5)] [(.int p3), (.ref a2)])) _
    refine X0.baloadBytes hx (j := p3) (v := (.int w7)) (by rw [e0]; exact Ar_a2.1) (State.isArrayOf_alike hZ.alike Ar_a2.2.1) Ar_a2.2.2 hin17 hat17 (g := (mkF m 17 #[.val (.ref a1), .val (.ref a2), .val (.int p3), .val (.int p4), .val (.int p5)] [(.int p3), (.ref a2)])) rfl rfl (hb hby d2_17) _ ?_
    show Steps p.tables e below (s₁.setTop (mkF m 18 #[.val (.ref a1), .val (.ref a2), .val (.int p3), .val (.int p4), .val (.int p5)] [(.int w7)])) _
    refine XS.iload X0.here hx rfl (hb hby d2_18) rfl ?_
    show Steps p.tables e below (s₁.setTop (mkF m 20 #[.val (.ref a1), .val (.ref a2), .val (.int p3), .val (.int p4), .val (.int p5)] [(.int p5), (.int w7)])) _
    refine st8 _ ?_
    show Steps p.tables e below (T8.setTop (mkF m 23 #[.val (.ref a1), .val (.ref a2), .val (.int p3), .val (.int p4), .val (.int p5)] [(.int (own_f3 p5)), (.int w7)])) _
    refine XS.icmpNo X8.here hx rfl (hb hby d2_23) rfl (teq (hlw : w7 = (own_f3 p5))).2 ?_
    show Steps p.tables e below (T8.setTop (mkF m 26 #[.val (.ref a1), .val (.ref a2), .val (.int p3), .val (.int p4), .val (.int p5)] [])) _
    refine XS.iconst X8.here hx rfl (hb hby d2_26) ?_
    show Steps p.tables e below (T8.setTop (mkF m 27 #[.val (.ref a1), .val (.ref a2), .val (.int p3), .val (.int p4), .val (.int p5)] [(.int (1 : Int32))])) _
    refine XS.goto X8.here hx rfl (pc0 := 27) (pc' := 31) rfl (hb hby d2_27) (by decide) (by decide) ?_
    show Steps p.tables e below (T8.setTop (mkF m 31 #[.val (.ref a1), .val (.ref a2), .val (.int p3), .val (.int p4), .val (.int p5)] [(.int (1 : Int32))])) _
    exact retN X8 hx (t := .boolean) Bd.returns (by simp) (hb hby d2_31) hr
  · show Q2y Z a1 a2 p3 p4 p5 w6 cl_a1 w7 cl_a2 h0 n0 _ T8.heap _
    exact ⟨rfl, N8, q8⟩

theorem own_okw (l : Launch) (Z : State) (a0 : Array Value) (hw : ∀ d ∈ tables_1, d.before a0 Z = true) (ws : List Jvm.Cond) (a1 a2 : Addr) (i N : Nat) (hi : i < 4) (f : Nat → Int32) (p5 : Int32) (hor : i < N → f i = p5) (hb5 : own_b p5 = p5) (h0 : Heap) (n0 : Nat) (Z0 : n0 ≤ h0.size) (V1 : own_AF Z h0 a1 .byte N (fun j => .int (f j))) (V2 : own_AF Z h0 a2 .byte N (fun j => .int (own_lw (f j)))) :
    MetFree l (⟨"com/example/skwash/skwash/command/GlobLowerCasePinLaw", "ok", "([B[BIIB)Z"⟩ : MethodName) (head1 (Jvm.Cond.code (⟨"com/example/skwash/skwash/command/GlobLowerCasePinLaw", "ok", "([B[BIIB)Z"⟩ : MethodName) method_3_code 5 (some .boolean) :: ws) ({ frames := 1, cells := 0, slots := 0, locals := 13 } : Room)) (fun a U => a = #[(.ref a1), (.ref a2), (.int (Int32.ofNat i)), (.int (Int32.ofNat N)), (.int p5)] ∧ Z.Warmed39 U.vm ∧ U.heap = h0) (fun _ _ _ _ _ => True) (fun _ U o U' => ∃ v L, o = .returned v ∧ own_Qr h0 n0 (.int 1) v U'.heap L ∧ FrameEnd U o U' L ({ frames := 1, cells := 0, slots := 0, locals := 13 } : Room).cells ({ frames := 1, cells := 0, slots := 0, locals := 13 } : Room).slots) := by
  obtain ⟨h1, cl1, Ar1, S1, H1, -⟩ := V1
  obtain ⟨-, cl2, Ar2, S2, H2, -⟩ := V2
  by_cases q : i < N
  · exact rm2y l Z a0 hw ws a1 a2 (Int32.ofNat i) (Int32.ofNat N) p5 (f i) cl1 (own_lw (f i)) cl2 h0 n0 Z0 (by rw [hor q]; exact own_lwf hb5) Ar1 (own_inb S1 q h1) (by rw [own_nc (by omega)]; exact H1 i q) Ar2 (own_inb S2 q h1) (by rw [own_nc (by omega)]; exact H2 i q) ((own_ltn (by omega) h1).mpr q) (hor q)
  · exact rm2n l Z a0 hw ws a1 a2 (Int32.ofNat i) (Int32.ofNat N) p5 h0 n0 Z0 (by rw [own_ltn (by omega) h1]; exact q)

theorem own_len5 (x : Int32) : ∃ N : Nat, N < 5 ∧ ((x &&& (2147483647 : Int32)) % (5 : Int32)) = Int32.ofNat N := by
  have h0 : 0 ≤ (x &&& (2147483647 : Int32)).toInt := by
    have h : (x &&& (2147483647 : Int32)).toBitVec.msb = false := by
      show (x.toBitVec &&& 2147483647#32).msb = false
      rw [BitVec.msb_and]
      have : (2147483647#32).msb = false := by decide
      rw [this, Bool.and_false]
    show 0 ≤ (x &&& (2147483647 : Int32)).toBitVec.toInt
    rw [BitVec.toInt_eq_msb_cond, h]; simp
  have h1 := (c_irem (x &&& (2147483647 : Int32)) 5 5 (by decide)).1 h0
  refine ⟨((x &&& (2147483647 : Int32)) % (5 : Int32)).toInt.toNat, by omega, ?_⟩
  apply Int32.toInt_inj.mp
  rw [own_ti (by omega)]; omega
def own_x (x0 x1 x2 x3 : Int32) (j : Nat) : Int32 := if j = 0 then x0 else if j = 1 then x1 else if j = 2 then x2 else x3
theorem os0_6 {z0 : Value} {z1 : Value} {z2 : Value} {z3 : Value} {z4 : Value} {s5 : Slot} {s6 : Slot} {s7 : Slot} {s8 : Slot} {s9 : Slot} {s10 : Slot} {s11 : Slot} {v : Int32} (h : One s5) : storeLocals #[.val z0, .val z1, .val z2, .val z3, .val z4, s5, s6, s7, s8, s9, s10, s11] 5 (.int v) = some #[.val z0, .val z1, .val z2, .val z3, .val z4, .val (.int v), s6, s7, s8, s9, s10, s11] := by
  rcases h with rfl | ⟨w, rfl, hw⟩
  · rfl
  · cases w <;> first | rfl | (simp [Value.category] at hw)
theorem os0_10 {z0 : Value} {z1 : Value} {z2 : Value} {z3 : Value} {z4 : Value} {z5 : Value} {s6 : Slot} {s7 : Slot} {s8 : Slot} {s9 : Slot} {s10 : Slot} {s11 : Slot} {v : Int32} (h : One s6) : storeLocals #[.val z0, .val z1, .val z2, .val z3, .val z4, .val z5, s6, s7, s8, s9, s10, s11] 6 (.int v) = some #[.val z0, .val z1, .val z2, .val z3, .val z4, .val z5, .val (.int v), s7, s8, s9, s10, s11] := by
  rcases h with rfl | ⟨w, rfl, hw⟩
  · rfl
  · cases w <;> first | rfl | (simp [Value.category] at hw)
theorem os0_14 {z0 : Value} {z1 : Value} {z2 : Value} {z3 : Value} {z4 : Value} {z5 : Value} {z6 : Value} {s7 : Slot} {s8 : Slot} {s9 : Slot} {s10 : Slot} {s11 : Slot} {v : Int32} (h : One s7) : storeLocals #[.val z0, .val z1, .val z2, .val z3, .val z4, .val z5, .val z6, s7, s8, s9, s10, s11] 7 (.int v) = some #[.val z0, .val z1, .val z2, .val z3, .val z4, .val z5, .val z6, .val (.int v), s8, s9, s10, s11] := by
  rcases h with rfl | ⟨w, rfl, hw⟩
  · rfl
  · cases w <;> first | rfl | (simp [Value.category] at hw)
theorem os0_18 {z0 : Value} {z1 : Value} {z2 : Value} {z3 : Value} {z4 : Value} {z5 : Value} {z6 : Value} {z7 : Value} {s8 : Slot} {s9 : Slot} {s10 : Slot} {s11 : Slot} {v : Int32} (h : One s8) : storeLocals #[.val z0, .val z1, .val z2, .val z3, .val z4, .val z5, .val z6, .val z7, s8, s9, s10, s11] 8 (.int v) = some #[.val z0, .val z1, .val z2, .val z3, .val z4, .val z5, .val z6, .val z7, .val (.int v), s9, s10, s11] := by
  rcases h with rfl | ⟨w, rfl, hw⟩
  · rfl
  · cases w <;> first | rfl | (simp [Value.category] at hw)
theorem os0_23 {z0 : Value} {z1 : Value} {z2 : Value} {z3 : Value} {z4 : Value} {z5 : Value} {z6 : Value} {z7 : Value} {z8 : Value} {s9 : Slot} {s10 : Slot} {s11 : Slot} {v : Int32} (h : One s9) : storeLocals #[.val z0, .val z1, .val z2, .val z3, .val z4, .val z5, .val z6, .val z7, .val z8, s9, s10, s11] 9 (.int v) = some #[.val z0, .val z1, .val z2, .val z3, .val z4, .val z5, .val z6, .val z7, .val z8, .val (.int v), s10, s11] := by
  rcases h with rfl | ⟨w, rfl, hw⟩
  · rfl
  · cases w <;> first | rfl | (simp [Value.category] at hw)
set_option maxRecDepth 65536 in
set_option maxHeartbeats 40000000 in
theorem tn0_0_25 {p : Program} {l : Launch} {e : Env} {R : Room} {s : State} {m : MethodId} {args : Array Value} {below : List Frame} {meth : Method} {c : Code} {T0 : State} {locs : List Loc} {cells slots : Nat} {Z : State} {a0 : Array Value} {h0 : Heap} (i0 : Int32) (i1 : Int32) (i2 : Int32) (i3 : Int32) (i4 : Int32)
    (X0 : Stand p l e R s m args below meth c T0 locs cells slots) (hx : p.tables.exec = Jvm.exec) (hZ : Z.Warmed39 s.vm) (hw : ∀ d ∈ tables_1, d.before a0 Z = true) (hby : c.code = code) (hml : c.maxLocals = 12) (hown : s.vm.findClass "com/example/skwash/skwash/command/GlobLowerCasePinLaw" = some m.cls) (e0 : T0.heap = h0) (hs5 : One .unset) (hs6 : One .unset) (hs7 : One .unset) (hs8 : One .unset) (hs9 : One .unset) (hnz5 : ¬ ((5 : Int32) = (0 : Int32))) :
    ∃ (T' : State), Stand p l e R s m args below meth c T' locs cells slots ∧ T'.heap = h0 ∧
      ∀ target, Steps p.tables e below (T'.setTop (mkF m 25 #[.val (.int i0), .val (.int i1), .val (.int i2), .val (.int i3), .val (.int i4), .val (.int ((i0 &&& (2147483647 : Int32)) % (5 : Int32))), .val (.int (i1.toInt8.toInt32)), .val (.int (i2.toInt8.toInt32)), .val (.int (i3.toInt8.toInt32)), .val (.int (i4.toInt8.toInt32)), .unset, .unset] [])) target → Steps p.tables e below (T0.setTop (mkF m 0 #[.val (.int i0), .val (.int i1), .val (.int i2), .val (.int i3), .val (.int i4), .unset, .unset, .unset, .unset, .unset, .unset, .unset] [])) target := by

  refine ⟨T0, X0, e0, fun target kt => ?_⟩
  show Steps p.tables e below (T0.setTop (mkF m 0 #[.val (.int i0), .val (.int i1), .val (.int i2), .val (.int i3), .val (.int i4), .unset, .unset, .unset, .unset, .unset, .unset, .unset] [])) _
  refine XS.iloadN X0.here hx rfl (hb hby at_0) rfl ?_
  show Steps p.tables e below (T0.setTop (mkF m 1 #[.val (.int i0), .val (.int i1), .val (.int i2), .val (.int i3), .val (.int i4), .unset, .unset, .unset, .unset, .unset, .unset, .unset] [(.int i0)])) _
  refine X0.ldcInt hx hown (mvT hZ (hw _ (List.mem_of_getElem? (i := 0) rfl))) (g := (mkF m 1 #[.val (.int i0), .val (.int i1), .val (.int i2), .val (.int i3), .val (.int i4), .unset, .unset, .unset, .unset, .unset, .unset, .unset] [(.int i0)])) rfl (hb hby at_1) _ ?_
  show Steps p.tables e below (T0.setTop (mkF m 3 #[.val (.int i0), .val (.int i1), .val (.int i2), .val (.int i3), .val (.int i4), .unset, .unset, .unset, .unset, .unset, .unset, .unset] [(.int (2147483647 : Int32)), (.int i0)])) _
  refine XS.iand X0.here hx rfl (hb hby at_3) rfl ?_
  show Steps p.tables e below (T0.setTop (mkF m 4 #[.val (.int i0), .val (.int i1), .val (.int i2), .val (.int i3), .val (.int i4), .unset, .unset, .unset, .unset, .unset, .unset, .unset] [(.int (i0 &&& (2147483647 : Int32)))])) _
  refine XS.iconst X0.here hx rfl (hb hby at_4) ?_
  show Steps p.tables e below (T0.setTop (mkF m 5 #[.val (.int i0), .val (.int i1), .val (.int i2), .val (.int i3), .val (.int i4), .unset, .unset, .unset, .unset, .unset, .unset, .unset] [(.int (5 : Int32)), (.int (i0 &&& (2147483647 : Int32)))])) _
  refine own_irem X0.here hx rfl (hb hby at_5) rfl hnz5 ?_
  show Steps p.tables e below (T0.setTop (mkF m 6 #[.val (.int i0), .val (.int i1), .val (.int i2), .val (.int i3), .val (.int i4), .unset, .unset, .unset, .unset, .unset, .unset, .unset] [(.int ((i0 &&& (2147483647 : Int32)) % (5 : Int32)))])) _
  refine XS.istore X0.here hx rfl (hb hby at_6) rfl (l' := #[.val (.int i0), .val (.int i1), .val (.int i2), .val (.int i3), .val (.int i4), .val (.int ((i0 &&& (2147483647 : Int32)) % (5 : Int32))), .unset, .unset, .unset, .unset, .unset, .unset]) (os0_6 hs5) ?_
  show Steps p.tables e below (T0.setTop (mkF m 8 #[.val (.int i0), .val (.int i1), .val (.int i2), .val (.int i3), .val (.int i4), .val (.int ((i0 &&& (2147483647 : Int32)) % (5 : Int32))), .unset, .unset, .unset, .unset, .unset, .unset] [])) _
  refine XS.iloadN X0.here hx rfl (hb hby at_8) rfl ?_
  show Steps p.tables e below (T0.setTop (mkF m 9 #[.val (.int i0), .val (.int i1), .val (.int i2), .val (.int i3), .val (.int i4), .val (.int ((i0 &&& (2147483647 : Int32)) % (5 : Int32))), .unset, .unset, .unset, .unset, .unset, .unset] [(.int i1)])) _
  refine XS.i2b X0.here hx rfl (hb hby at_9) rfl ?_
  show Steps p.tables e below (T0.setTop (mkF m 10 #[.val (.int i0), .val (.int i1), .val (.int i2), .val (.int i3), .val (.int i4), .val (.int ((i0 &&& (2147483647 : Int32)) % (5 : Int32))), .unset, .unset, .unset, .unset, .unset, .unset] [(.int (i1.toInt8.toInt32))])) _
  refine XS.istore X0.here hx rfl (hb hby at_10) rfl (l' := #[.val (.int i0), .val (.int i1), .val (.int i2), .val (.int i3), .val (.int i4), .val (.int ((i0 &&& (2147483647 : Int32)) % (5 : Int32))), .val (.int (i1.toInt8.toInt32)), .unset, .unset, .unset, .unset, .unset]) (os0_10 hs6) ?_
  show Steps p.tables e below (T0.setTop (mkF m 12 #[.val (.int i0), .val (.int i1), .val (.int i2), .val (.int i3), .val (.int i4), .val (.int ((i0 &&& (2147483647 : Int32)) % (5 : Int32))), .val (.int (i1.toInt8.toInt32)), .unset, .unset, .unset, .unset, .unset] [])) _
  refine XS.iloadN X0.here hx rfl (hb hby at_12) rfl ?_
  show Steps p.tables e below (T0.setTop (mkF m 13 #[.val (.int i0), .val (.int i1), .val (.int i2), .val (.int i3), .val (.int i4), .val (.int ((i0 &&& (2147483647 : Int32)) % (5 : Int32))), .val (.int (i1.toInt8.toInt32)), .unset, .unset, .unset, .unset, .unset] [(.int i2)])) _
  refine XS.i2b X0.here hx rfl (hb hby at_13) rfl ?_
  show Steps p.tables e below (T0.setTop (mkF m 14 #[.val (.int i0), .val (.int i1), .val (.int i2), .val (.int i3), .val (.int i4), .val (.int ((i0 &&& (2147483647 : Int32)) % (5 : Int32))), .val (.int (i1.toInt8.toInt32)), .unset, .unset, .unset, .unset, .unset] [(.int (i2.toInt8.toInt32))])) _
  refine XS.istore X0.here hx rfl (hb hby at_14) rfl (l' := #[.val (.int i0), .val (.int i1), .val (.int i2), .val (.int i3), .val (.int i4), .val (.int ((i0 &&& (2147483647 : Int32)) % (5 : Int32))), .val (.int (i1.toInt8.toInt32)), .val (.int (i2.toInt8.toInt32)), .unset, .unset, .unset, .unset]) (os0_14 hs7) ?_
  show Steps p.tables e below (T0.setTop (mkF m 16 #[.val (.int i0), .val (.int i1), .val (.int i2), .val (.int i3), .val (.int i4), .val (.int ((i0 &&& (2147483647 : Int32)) % (5 : Int32))), .val (.int (i1.toInt8.toInt32)), .val (.int (i2.toInt8.toInt32)), .unset, .unset, .unset, .unset] [])) _
  refine XS.iloadN X0.here hx rfl (hb hby at_16) rfl ?_
  show Steps p.tables e below (T0.setTop (mkF m 17 #[.val (.int i0), .val (.int i1), .val (.int i2), .val (.int i3), .val (.int i4), .val (.int ((i0 &&& (2147483647 : Int32)) % (5 : Int32))), .val (.int (i1.toInt8.toInt32)), .val (.int (i2.toInt8.toInt32)), .unset, .unset, .unset, .unset] [(.int i3)])) _
  refine XS.i2b X0.here hx rfl (hb hby at_17) rfl ?_
  show Steps p.tables e below (T0.setTop (mkF m 18 #[.val (.int i0), .val (.int i1), .val (.int i2), .val (.int i3), .val (.int i4), .val (.int ((i0 &&& (2147483647 : Int32)) % (5 : Int32))), .val (.int (i1.toInt8.toInt32)), .val (.int (i2.toInt8.toInt32)), .unset, .unset, .unset, .unset] [(.int (i3.toInt8.toInt32))])) _
  refine XS.istore X0.here hx rfl (hb hby at_18) rfl (l' := #[.val (.int i0), .val (.int i1), .val (.int i2), .val (.int i3), .val (.int i4), .val (.int ((i0 &&& (2147483647 : Int32)) % (5 : Int32))), .val (.int (i1.toInt8.toInt32)), .val (.int (i2.toInt8.toInt32)), .val (.int (i3.toInt8.toInt32)), .unset, .unset, .unset]) (os0_18 hs8) ?_
  show Steps p.tables e below (T0.setTop (mkF m 20 #[.val (.int i0), .val (.int i1), .val (.int i2), .val (.int i3), .val (.int i4), .val (.int ((i0 &&& (2147483647 : Int32)) % (5 : Int32))), .val (.int (i1.toInt8.toInt32)), .val (.int (i2.toInt8.toInt32)), .val (.int (i3.toInt8.toInt32)), .unset, .unset, .unset] [])) _
  refine XS.iload X0.here hx rfl (hb hby at_20) rfl ?_
  show Steps p.tables e below (T0.setTop (mkF m 22 #[.val (.int i0), .val (.int i1), .val (.int i2), .val (.int i3), .val (.int i4), .val (.int ((i0 &&& (2147483647 : Int32)) % (5 : Int32))), .val (.int (i1.toInt8.toInt32)), .val (.int (i2.toInt8.toInt32)), .val (.int (i3.toInt8.toInt32)), .unset, .unset, .unset] [(.int i4)])) _
  refine XS.i2b X0.here hx rfl (hb hby at_22) rfl ?_
  show Steps p.tables e below (T0.setTop (mkF m 23 #[.val (.int i0), .val (.int i1), .val (.int i2), .val (.int i3), .val (.int i4), .val (.int ((i0 &&& (2147483647 : Int32)) % (5 : Int32))), .val (.int (i1.toInt8.toInt32)), .val (.int (i2.toInt8.toInt32)), .val (.int (i3.toInt8.toInt32)), .unset, .unset, .unset] [(.int (i4.toInt8.toInt32))])) _
  refine XS.istore X0.here hx rfl (hb hby at_23) rfl (l' := #[.val (.int i0), .val (.int i1), .val (.int i2), .val (.int i3), .val (.int i4), .val (.int ((i0 &&& (2147483647 : Int32)) % (5 : Int32))), .val (.int (i1.toInt8.toInt32)), .val (.int (i2.toInt8.toInt32)), .val (.int (i3.toInt8.toInt32)), .val (.int (i4.toInt8.toInt32)), .unset, .unset]) (os0_23 hs9) ?_
  exact kt
theorem os0_33 {s0 : Slot} {s1 : Slot} {s2 : Slot} {s3 : Slot} {s4 : Slot} {z5 : Value} {s6 : Slot} {s7 : Slot} {s8 : Slot} {s9 : Slot} {s10 : Slot} {s11 : Slot} {v : Addr} (h : One s10) : storeLocals #[s0, s1, s2, s3, s4, .val z5, s6, s7, s8, s9, s10, s11] 10 (.ref v) = some #[s0, s1, s2, s3, s4, .val z5, s6, s7, s8, s9, .val (.ref v), s11] := by
  rcases h with rfl | ⟨w, rfl, hw⟩
  · rfl
  · cases w <;> first | rfl | (simp [Value.category] at hw)
set_option maxRecDepth 65536 in
set_option maxHeartbeats 40000000 in
theorem own_mk0 {p : Program} {l : Launch} {e : Env} {s : State} {m : MethodId} {args : Array Value} {below : List Frame} {meth : Method} {c : Code} {T0 : State} {locs : List Loc} {Z : State} {a0 : Array Value} {h0 : Heap} {n0 : Nat} (s0 : Slot) (s1 : Slot) (s2 : Slot) (s3 : Slot) (s4 : Slot) (i5 : Int32) (s6 : Slot) (s7 : Slot) (s8 : Slot) (s9 : Slot) (s11 : Slot)
    (X0 : Stand p l e room_1 s m args below meth c T0 locs 0 0) (hx : p.tables.exec = Jvm.exec) (hZ : Z.Warmed39 s.vm) (hw : ∀ d ∈ tables_1, d.before a0 Z = true) (hby : c.code = code) (hml : c.maxLocals = 12) (hown : s.vm.findClass "com/example/skwash/skwash/command/GlobLowerCasePinLaw" = some m.cls) (e0 : T0.heap = h0) (N0 : Fr n0 locs) (Z0 : n0 ≤ h0.size) (hs10 : One .unset) (hc27 : i5 = (0 : Int32)) :
    ∃ (b6 : Addr) (T' : State) (h' : Heap) (locs' : List Loc), Stand p l e room_1 s m args below meth c T' locs' 1 4 ∧ T'.heap = h' ∧ Fr n0 locs' ∧ n0 ≤ h'.size ∧ (own_AF Z h' b6 .byte 0 (fun j => .int (own_x 0 0 0 0 j)) ∧ Exa Z h' b6 "[B" ∧ n0 ≤ b6) ∧
      ∀ target, Steps p.tables e below (T'.setTop (mkF m 135 #[s0, s1, s2, s3, s4, .val (.int i5), s6, s7, s8, s9, .val (.ref b6), s11] [])) target → Steps p.tables e below (T0.setTop (mkF m 25 #[s0, s1, s2, s3, s4, .val (.int i5), s6, s7, s8, s9, .unset, s11] [])) target := by
  obtain ⟨T6, h6, k6, X6, e6, E6, A6, Ex6, st6⟩ := newPE X0 hx hZ (hw _ (List.mem_of_getElem? (i := 1) rfl)) e0 (g := (mkF m 31 #[s0, s1, s2, s3, s4, .val (.int i5), s6, s7, s8, s9, .unset, s11] [(.int (0 : Int32))])) rfl (hb hby at_31) rfl (by decide) (cap := 4) (by decide) (by decide) (by decide) (by decide) (ad := "[B") (by decide)
  obtain ⟨b6, g6⟩ : ∃ z, z = h0.size := ⟨_, rfl⟩
  rw [← g6] at A6 Ex6 st6
  have V_b6 := Arv.new A6 (by decide)
  have g_b6 : n0 ≤ b6 := Nat.le_trans Z0 (Nat.le_of_eq g6.symm)
  have sz_b6 : h0.size ≤ b6 := (Nat.le_trans (Keep.refl h0 []).1 (Nat.le_of_eq g6.symm))
  have K6 : Keep h0 h6 [] := (Keep.refl h0 []).ext E6
  refine ⟨b6, T6, _, _, X6, e6, N0, (Nat.le_trans Z0 K6.1), ⟨own_AF.of V_b6 0 rfl _ (fun j hj => absurd hj (Nat.not_lt_zero _)), Ex6, g_b6⟩, fun target kt => ?_⟩
  show Steps p.tables e below (T0.setTop (mkF m 25 #[s0, s1, s2, s3, s4, .val (.int i5), s6, s7, s8, s9, .unset, s11] [])) _
  refine XS.iload X0.here hx rfl (hb hby at_25) rfl ?_
  show Steps p.tables e below (T0.setTop (mkF m 27 #[s0, s1, s2, s3, s4, .val (.int i5), s6, s7, s8, s9, .unset, s11] [(.int i5)])) _
  refine XS.ifNo X0.here hx rfl (hb hby at_27) rfl ((if0 _ _).trans (teq hc27).2) ?_
  show Steps p.tables e below (T0.setTop (mkF m 30 #[s0, s1, s2, s3, s4, .val (.int i5), s6, s7, s8, s9, .unset, s11] [])) _
  refine XS.iconst X0.here hx rfl (hb hby at_30) ?_
  show Steps p.tables e below (T0.setTop (mkF m 31 #[s0, s1, s2, s3, s4, .val (.int i5), s6, s7, s8, s9, .unset, s11] [(.int (0 : Int32))])) _
  refine st6 _ ?_
  show Steps p.tables e below (T6.setTop (mkF m 33 #[s0, s1, s2, s3, s4, .val (.int i5), s6, s7, s8, s9, .unset, s11] [(.ref b6)])) _
  refine XS.astore X6.here hx rfl (hb hby at_33) rfl rfl (l' := #[s0, s1, s2, s3, s4, .val (.int i5), s6, s7, s8, s9, .val (.ref b6), s11]) (os0_33 hs10) ?_
  show Steps p.tables e below (T6.setTop (mkF m 35 #[s0, s1, s2, s3, s4, .val (.int i5), s6, s7, s8, s9, .val (.ref b6), s11] [])) _
  refine XS.goto X6.here hx rfl (pc0 := 35) (pc' := 135) rfl (hb hby at_35) (by decide) (by decide) ?_
  exact kt
theorem os0_52 {s0 : Slot} {s1 : Slot} {s2 : Slot} {s3 : Slot} {s4 : Slot} {z5 : Value} {z6 : Value} {s7 : Slot} {s8 : Slot} {s9 : Slot} {s10 : Slot} {s11 : Slot} {v : Addr} (h : One s10) : storeLocals #[s0, s1, s2, s3, s4, .val z5, .val z6, s7, s8, s9, s10, s11] 10 (.ref v) = some #[s0, s1, s2, s3, s4, .val z5, .val z6, s7, s8, s9, .val (.ref v), s11] := by
  rcases h with rfl | ⟨w, rfl, hw⟩
  · rfl
  · cases w <;> first | rfl | (simp [Value.category] at hw)
set_option maxRecDepth 65536 in
set_option maxHeartbeats 40000000 in
theorem own_mk1 {p : Program} {l : Launch} {e : Env} {s : State} {m : MethodId} {args : Array Value} {below : List Frame} {meth : Method} {c : Code} {T0 : State} {locs : List Loc} {Z : State} {a0 : Array Value} {h0 : Heap} {n0 : Nat} (s0 : Slot) (s1 : Slot) (s2 : Slot) (s3 : Slot) (s4 : Slot) (i5 : Int32) (i6 : Int32) (s7 : Slot) (s8 : Slot) (s9 : Slot) (s11 : Slot)
    (X0 : Stand p l e room_1 s m args below meth c T0 locs 0 0) (hx : p.tables.exec = Jvm.exec) (hZ : Z.Warmed39 s.vm) (hw : ∀ d ∈ tables_1, d.before a0 Z = true) (hby : c.code = code) (hml : c.maxLocals = 12) (hown : s.vm.findClass "com/example/skwash/skwash/command/GlobLowerCasePinLaw" = some m.cls) (e0 : T0.heap = h0) (N0 : Fr n0 locs) (Z0 : n0 ≤ h0.size) (hs10 : One .unset) (hc27 : ¬ (i5 = (0 : Int32))) (hc41 : i5 = (1 : Int32)) (hx0 : own_b i6 = i6) :
    ∃ (b6 : Addr) (T' : State) (h' : Heap) (locs' : List Loc), Stand p l e room_1 s m args below meth c T' locs' 1 4 ∧ T'.heap = h' ∧ Fr n0 locs' ∧ n0 ≤ h'.size ∧ (own_AF Z h' b6 .byte 1 (fun j => .int (own_x i6 0 0 0 j)) ∧ Exa Z h' b6 "[B" ∧ n0 ≤ b6) ∧
      ∀ target, Steps p.tables e below (T'.setTop (mkF m 135 #[s0, s1, s2, s3, s4, .val (.int i5), .val (.int i6), s7, s8, s9, .val (.ref b6), s11] [])) target → Steps p.tables e below (T0.setTop (mkF m 25 #[s0, s1, s2, s3, s4, .val (.int i5), .val (.int i6), s7, s8, s9, .unset, s11] [])) target := by
  obtain ⟨T6, h6, k6, X6, e6, E6, A6, Ex6, st6⟩ := newPE X0 hx hZ (hw _ (List.mem_of_getElem? (i := 1) rfl)) e0 (g := (mkF m 45 #[s0, s1, s2, s3, s4, .val (.int i5), .val (.int i6), s7, s8, s9, .unset, s11] [(.int (1 : Int32))])) rfl (hb hby at_45) rfl (by decide) (cap := 4) (by decide) (by decide) (by decide) (by decide) (ad := "[B") (by decide)
  obtain ⟨b6, g6⟩ : ∃ z, z = h0.size := ⟨_, rfl⟩
  rw [← g6] at A6 Ex6 st6
  have V_b6 : Arv Z h6 b6 k6 .byte (1 : Int32) [(.int (0 : Int32))] (.int (0 : Int32)) := (Arv.new A6 (by decide)).pad (pad_rep [] (.int (0 : Int32)) 1)
  have g_b6 : n0 ≤ b6 := Nat.le_trans Z0 (Nat.le_of_eq g6.symm)
  have sz_b6 : h0.size ≤ b6 := (Nat.le_trans (Keep.refl h0 []).1 (Nat.le_of_eq g6.symm))
  have K6 : Keep h0 h6 [] := (Keep.refl h0 []).ext E6
  obtain ⟨cl_b6_51, Ar_b6, q_b6, S_b6, N_b6, H_b6, G_b6⟩ := V_b6
  have hin51 : ¬ ((0 : Int32) < 0 ∨ cl_b6_51.slots.size ≤ ((0 : Int32)).toNatClampNeg) := inb_of S_b6 ⟨by decide, by decide⟩
  obtain ⟨T7, h7, X7, e7, W7, st7⟩ := stB X6 hx hZ e6 Ar_b6 (j := (0 : Int32)) hin51 (g := (mkF m 51 #[s0, s1, s2, s3, s4, .val (.int i5), .val (.int i6), s7, s8, s9, .unset, s11] [(.int i6), (.int (0 : Int32)), (.ref b6), (.ref b6)])) rfl rfl (hb hby at_51)
  have V_b6_7 := Arv.set Ar_b6 q_b6 S_b6 N_b6 H_b6 G_b6 (fits_nar_byte _) W7 0 rfl (Nat.le_of_ble_eq_true rfl)
  have K7 : Keep h0 h7 [] := K6.wr W7 (Or.inr sz_b6)
  have N7 := Fr.snoc X7 N0 g_b6
  refine ⟨b6, T7, _, _, X7, e7, N7, (Nat.le_trans Z0 K7.1), ⟨own_AF.of V_b6_7 1 rfl _ (fun j hj => by match j, hj with | 0, _ => exact congrArg Value.int hx0), (Ex6.wr W7), g_b6⟩, fun target kt => ?_⟩
  show Steps p.tables e below (T0.setTop (mkF m 25 #[s0, s1, s2, s3, s4, .val (.int i5), .val (.int i6), s7, s8, s9, .unset, s11] [])) _
  refine XS.iload X0.here hx rfl (hb hby at_25) rfl ?_
  show Steps p.tables e below (T0.setTop (mkF m 27 #[s0, s1, s2, s3, s4, .val (.int i5), .val (.int i6), s7, s8, s9, .unset, s11] [(.int i5)])) _
  refine XS.ifYes X0.here hx rfl (pc0 := 27) (pc' := 38) rfl (hb hby at_27) rfl ((if0 _ _).trans (feq hc27).2) (by decide) (by decide) ?_
  show Steps p.tables e below (T0.setTop (mkF m 38 #[s0, s1, s2, s3, s4, .val (.int i5), .val (.int i6), s7, s8, s9, .unset, s11] [])) _
  refine XS.iload X0.here hx rfl (hb hby at_38) rfl ?_
  show Steps p.tables e below (T0.setTop (mkF m 40 #[s0, s1, s2, s3, s4, .val (.int i5), .val (.int i6), s7, s8, s9, .unset, s11] [(.int i5)])) _
  refine XS.iconst X0.here hx rfl (hb hby at_40) ?_
  show Steps p.tables e below (T0.setTop (mkF m 41 #[s0, s1, s2, s3, s4, .val (.int i5), .val (.int i6), s7, s8, s9, .unset, s11] [(.int (1 : Int32)), (.int i5)])) _
  refine XS.icmpNo X0.here hx rfl (hb hby at_41) rfl (teq hc41).2 ?_
  show Steps p.tables e below (T0.setTop (mkF m 44 #[s0, s1, s2, s3, s4, .val (.int i5), .val (.int i6), s7, s8, s9, .unset, s11] [])) _
  refine XS.iconst X0.here hx rfl (hb hby at_44) ?_
  show Steps p.tables e below (T0.setTop (mkF m 45 #[s0, s1, s2, s3, s4, .val (.int i5), .val (.int i6), s7, s8, s9, .unset, s11] [(.int (1 : Int32))])) _
  refine st6 _ ?_
  show Steps p.tables e below (T6.setTop (mkF m 47 #[s0, s1, s2, s3, s4, .val (.int i5), .val (.int i6), s7, s8, s9, .unset, s11] [(.ref b6)])) _
  refine XS.dup X6.here hx rfl (hb hby at_47) rfl rfl ?_
  show Steps p.tables e below (T6.setTop (mkF m 48 #[s0, s1, s2, s3, s4, .val (.int i5), .val (.int i6), s7, s8, s9, .unset, s11] [(.ref b6), (.ref b6)])) _
  refine XS.iconst X6.here hx rfl (hb hby at_48) ?_
  show Steps p.tables e below (T6.setTop (mkF m 49 #[s0, s1, s2, s3, s4, .val (.int i5), .val (.int i6), s7, s8, s9, .unset, s11] [(.int (0 : Int32)), (.ref b6), (.ref b6)])) _
  refine XS.iload X6.here hx rfl (hb hby at_49) rfl ?_
  show Steps p.tables e below (T6.setTop (mkF m 51 #[s0, s1, s2, s3, s4, .val (.int i5), .val (.int i6), s7, s8, s9, .unset, s11] [(.int i6), (.int (0 : Int32)), (.ref b6), (.ref b6)])) _
  refine st7 _ ?_
  show Steps p.tables e below (T7.setTop (mkF m 52 #[s0, s1, s2, s3, s4, .val (.int i5), .val (.int i6), s7, s8, s9, .unset, s11] [(.ref b6)])) _
  refine XS.astore X7.here hx rfl (hb hby at_52) rfl rfl (l' := #[s0, s1, s2, s3, s4, .val (.int i5), .val (.int i6), s7, s8, s9, .val (.ref b6), s11]) (os0_52 hs10) ?_
  show Steps p.tables e below (T7.setTop (mkF m 54 #[s0, s1, s2, s3, s4, .val (.int i5), .val (.int i6), s7, s8, s9, .val (.ref b6), s11] [])) _
  refine XS.goto X7.here hx rfl (pc0 := 54) (pc' := 135) rfl (hb hby at_54) (by decide) (by decide) ?_
  exact kt
theorem os0_76 {s0 : Slot} {s1 : Slot} {s2 : Slot} {s3 : Slot} {s4 : Slot} {z5 : Value} {z6 : Value} {z7 : Value} {s8 : Slot} {s9 : Slot} {s10 : Slot} {s11 : Slot} {v : Addr} (h : One s10) : storeLocals #[s0, s1, s2, s3, s4, .val z5, .val z6, .val z7, s8, s9, s10, s11] 10 (.ref v) = some #[s0, s1, s2, s3, s4, .val z5, .val z6, .val z7, s8, s9, .val (.ref v), s11] := by
  rcases h with rfl | ⟨w, rfl, hw⟩
  · rfl
  · cases w <;> first | rfl | (simp [Value.category] at hw)
set_option maxRecDepth 65536 in
set_option maxHeartbeats 40000000 in
theorem own_mk2 {p : Program} {l : Launch} {e : Env} {s : State} {m : MethodId} {args : Array Value} {below : List Frame} {meth : Method} {c : Code} {T0 : State} {locs : List Loc} {Z : State} {a0 : Array Value} {h0 : Heap} {n0 : Nat} (s0 : Slot) (s1 : Slot) (s2 : Slot) (s3 : Slot) (s4 : Slot) (i5 : Int32) (i6 : Int32) (i7 : Int32) (s8 : Slot) (s9 : Slot) (s11 : Slot)
    (X0 : Stand p l e room_1 s m args below meth c T0 locs 0 0) (hx : p.tables.exec = Jvm.exec) (hZ : Z.Warmed39 s.vm) (hw : ∀ d ∈ tables_1, d.before a0 Z = true) (hby : c.code = code) (hml : c.maxLocals = 12) (hown : s.vm.findClass "com/example/skwash/skwash/command/GlobLowerCasePinLaw" = some m.cls) (e0 : T0.heap = h0) (N0 : Fr n0 locs) (Z0 : n0 ≤ h0.size) (hs10 : One .unset) (hc27 : ¬ (i5 = (0 : Int32))) (hc41 : ¬ (i5 = (1 : Int32))) (hc60 : i5 = (2 : Int32)) (hx0 : own_b i6 = i6) (hx1 : own_b i7 = i7) :
    ∃ (b6 : Addr) (T' : State) (h' : Heap) (locs' : List Loc), Stand p l e room_1 s m args below meth c T' locs' 1 4 ∧ T'.heap = h' ∧ Fr n0 locs' ∧ n0 ≤ h'.size ∧ (own_AF Z h' b6 .byte 2 (fun j => .int (own_x i6 i7 0 0 j)) ∧ Exa Z h' b6 "[B" ∧ n0 ≤ b6) ∧
      ∀ target, Steps p.tables e below (T'.setTop (mkF m 135 #[s0, s1, s2, s3, s4, .val (.int i5), .val (.int i6), .val (.int i7), s8, s9, .val (.ref b6), s11] [])) target → Steps p.tables e below (T0.setTop (mkF m 25 #[s0, s1, s2, s3, s4, .val (.int i5), .val (.int i6), .val (.int i7), s8, s9, .unset, s11] [])) target := by
  obtain ⟨T6, h6, k6, X6, e6, E6, A6, Ex6, st6⟩ := newPE X0 hx hZ (hw _ (List.mem_of_getElem? (i := 1) rfl)) e0 (g := (mkF m 64 #[s0, s1, s2, s3, s4, .val (.int i5), .val (.int i6), .val (.int i7), s8, s9, .unset, s11] [(.int (2 : Int32))])) rfl (hb hby at_64) rfl (by decide) (cap := 4) (by decide) (by decide) (by decide) (by decide) (ad := "[B") (by decide)
  obtain ⟨b6, g6⟩ : ∃ z, z = h0.size := ⟨_, rfl⟩
  rw [← g6] at A6 Ex6 st6
  have V_b6 : Arv Z h6 b6 k6 .byte (2 : Int32) [(.int (0 : Int32)), (.int (0 : Int32))] (.int (0 : Int32)) := (Arv.new A6 (by decide)).pad (pad_rep [] (.int (0 : Int32)) 2)
  have g_b6 : n0 ≤ b6 := Nat.le_trans Z0 (Nat.le_of_eq g6.symm)
  have sz_b6 : h0.size ≤ b6 := (Nat.le_trans (Keep.refl h0 []).1 (Nat.le_of_eq g6.symm))
  have K6 : Keep h0 h6 [] := (Keep.refl h0 []).ext E6
  obtain ⟨cl_b6_70, Ar_b6, q_b6, S_b6, N_b6, H_b6, G_b6⟩ := V_b6
  have hin70 : ¬ ((0 : Int32) < 0 ∨ cl_b6_70.slots.size ≤ ((0 : Int32)).toNatClampNeg) := inb_of S_b6 ⟨by decide, by decide⟩
  obtain ⟨T7, h7, X7, e7, W7, st7⟩ := stB X6 hx hZ e6 Ar_b6 (j := (0 : Int32)) hin70 (g := (mkF m 70 #[s0, s1, s2, s3, s4, .val (.int i5), .val (.int i6), .val (.int i7), s8, s9, .unset, s11] [(.int i6), (.int (0 : Int32)), (.ref b6), (.ref b6)])) rfl rfl (hb hby at_70)
  have V_b6_7 := Arv.set Ar_b6 q_b6 S_b6 N_b6 H_b6 G_b6 (fits_nar_byte _) W7 0 rfl (Nat.le_of_ble_eq_true rfl)
  have K7 : Keep h0 h7 [] := K6.wr W7 (Or.inr sz_b6)
  have N7 := Fr.snoc X7 N0 g_b6
  obtain ⟨cl_b6_75, Ar_b6, q_b6, S_b6, N_b6, H_b6, G_b6⟩ := V_b6_7
  have hin75 : ¬ ((1 : Int32) < 0 ∨ cl_b6_75.slots.size ≤ ((1 : Int32)).toNatClampNeg) := inb_of S_b6 ⟨by decide, by decide⟩
  obtain ⟨T8, h8, X8, e8, W8, st8⟩ := stB X7 hx hZ e7 Ar_b6 (j := (1 : Int32)) hin75 (g := (mkF m 75 #[s0, s1, s2, s3, s4, .val (.int i5), .val (.int i6), .val (.int i7), s8, s9, .unset, s11] [(.int i7), (.int (1 : Int32)), (.ref b6), (.ref b6)])) rfl rfl (hb hby at_75)
  have V_b6_8 := Arv.set Ar_b6 q_b6 S_b6 N_b6 H_b6 G_b6 (fits_nar_byte _) W8 1 rfl (Nat.le_of_ble_eq_true rfl)
  have K8 : Keep h0 h8 [] := K7.wr W8 (Or.inr sz_b6)
  have N8 := Fr.snoc X8 N7 g_b6
  refine ⟨b6, T8, _, _, X8, e8, N8, (Nat.le_trans Z0 K8.1), ⟨own_AF.of V_b6_8 2 rfl _ (fun j hj => by match j, hj with | 0, _ => exact congrArg Value.int hx0 | 1, _ => exact congrArg Value.int hx1), ((Ex6.wr W7).wr W8), g_b6⟩, fun target kt => ?_⟩
  show Steps p.tables e below (T0.setTop (mkF m 25 #[s0, s1, s2, s3, s4, .val (.int i5), .val (.int i6), .val (.int i7), s8, s9, .unset, s11] [])) _
  refine XS.iload X0.here hx rfl (hb hby at_25) rfl ?_
  show Steps p.tables e below (T0.setTop (mkF m 27 #[s0, s1, s2, s3, s4, .val (.int i5), .val (.int i6), .val (.int i7), s8, s9, .unset, s11] [(.int i5)])) _
  refine XS.ifYes X0.here hx rfl (pc0 := 27) (pc' := 38) rfl (hb hby at_27) rfl ((if0 _ _).trans (feq hc27).2) (by decide) (by decide) ?_
  show Steps p.tables e below (T0.setTop (mkF m 38 #[s0, s1, s2, s3, s4, .val (.int i5), .val (.int i6), .val (.int i7), s8, s9, .unset, s11] [])) _
  refine XS.iload X0.here hx rfl (hb hby at_38) rfl ?_
  show Steps p.tables e below (T0.setTop (mkF m 40 #[s0, s1, s2, s3, s4, .val (.int i5), .val (.int i6), .val (.int i7), s8, s9, .unset, s11] [(.int i5)])) _
  refine XS.iconst X0.here hx rfl (hb hby at_40) ?_
  show Steps p.tables e below (T0.setTop (mkF m 41 #[s0, s1, s2, s3, s4, .val (.int i5), .val (.int i6), .val (.int i7), s8, s9, .unset, s11] [(.int (1 : Int32)), (.int i5)])) _
  refine XS.icmpYes X0.here hx rfl (pc0 := 41) (pc' := 57) rfl (hb hby at_41) rfl (feq hc41).2 (by decide) (by decide) ?_
  show Steps p.tables e below (T0.setTop (mkF m 57 #[s0, s1, s2, s3, s4, .val (.int i5), .val (.int i6), .val (.int i7), s8, s9, .unset, s11] [])) _
  refine XS.iload X0.here hx rfl (hb hby at_57) rfl ?_
  show Steps p.tables e below (T0.setTop (mkF m 59 #[s0, s1, s2, s3, s4, .val (.int i5), .val (.int i6), .val (.int i7), s8, s9, .unset, s11] [(.int i5)])) _
  refine XS.iconst X0.here hx rfl (hb hby at_59) ?_
  show Steps p.tables e below (T0.setTop (mkF m 60 #[s0, s1, s2, s3, s4, .val (.int i5), .val (.int i6), .val (.int i7), s8, s9, .unset, s11] [(.int (2 : Int32)), (.int i5)])) _
  refine XS.icmpNo X0.here hx rfl (hb hby at_60) rfl (teq hc60).2 ?_
  show Steps p.tables e below (T0.setTop (mkF m 63 #[s0, s1, s2, s3, s4, .val (.int i5), .val (.int i6), .val (.int i7), s8, s9, .unset, s11] [])) _
  refine XS.iconst X0.here hx rfl (hb hby at_63) ?_
  show Steps p.tables e below (T0.setTop (mkF m 64 #[s0, s1, s2, s3, s4, .val (.int i5), .val (.int i6), .val (.int i7), s8, s9, .unset, s11] [(.int (2 : Int32))])) _
  refine st6 _ ?_
  show Steps p.tables e below (T6.setTop (mkF m 66 #[s0, s1, s2, s3, s4, .val (.int i5), .val (.int i6), .val (.int i7), s8, s9, .unset, s11] [(.ref b6)])) _
  refine XS.dup X6.here hx rfl (hb hby at_66) rfl rfl ?_
  show Steps p.tables e below (T6.setTop (mkF m 67 #[s0, s1, s2, s3, s4, .val (.int i5), .val (.int i6), .val (.int i7), s8, s9, .unset, s11] [(.ref b6), (.ref b6)])) _
  refine XS.iconst X6.here hx rfl (hb hby at_67) ?_
  show Steps p.tables e below (T6.setTop (mkF m 68 #[s0, s1, s2, s3, s4, .val (.int i5), .val (.int i6), .val (.int i7), s8, s9, .unset, s11] [(.int (0 : Int32)), (.ref b6), (.ref b6)])) _
  refine XS.iload X6.here hx rfl (hb hby at_68) rfl ?_
  show Steps p.tables e below (T6.setTop (mkF m 70 #[s0, s1, s2, s3, s4, .val (.int i5), .val (.int i6), .val (.int i7), s8, s9, .unset, s11] [(.int i6), (.int (0 : Int32)), (.ref b6), (.ref b6)])) _
  refine st7 _ ?_
  show Steps p.tables e below (T7.setTop (mkF m 71 #[s0, s1, s2, s3, s4, .val (.int i5), .val (.int i6), .val (.int i7), s8, s9, .unset, s11] [(.ref b6)])) _
  refine XS.dup X7.here hx rfl (hb hby at_71) rfl rfl ?_
  show Steps p.tables e below (T7.setTop (mkF m 72 #[s0, s1, s2, s3, s4, .val (.int i5), .val (.int i6), .val (.int i7), s8, s9, .unset, s11] [(.ref b6), (.ref b6)])) _
  refine XS.iconst X7.here hx rfl (hb hby at_72) ?_
  show Steps p.tables e below (T7.setTop (mkF m 73 #[s0, s1, s2, s3, s4, .val (.int i5), .val (.int i6), .val (.int i7), s8, s9, .unset, s11] [(.int (1 : Int32)), (.ref b6), (.ref b6)])) _
  refine XS.iload X7.here hx rfl (hb hby at_73) rfl ?_
  show Steps p.tables e below (T7.setTop (mkF m 75 #[s0, s1, s2, s3, s4, .val (.int i5), .val (.int i6), .val (.int i7), s8, s9, .unset, s11] [(.int i7), (.int (1 : Int32)), (.ref b6), (.ref b6)])) _
  refine st8 _ ?_
  show Steps p.tables e below (T8.setTop (mkF m 76 #[s0, s1, s2, s3, s4, .val (.int i5), .val (.int i6), .val (.int i7), s8, s9, .unset, s11] [(.ref b6)])) _
  refine XS.astore X8.here hx rfl (hb hby at_76) rfl rfl (l' := #[s0, s1, s2, s3, s4, .val (.int i5), .val (.int i6), .val (.int i7), s8, s9, .val (.ref b6), s11]) (os0_76 hs10) ?_
  show Steps p.tables e below (T8.setTop (mkF m 78 #[s0, s1, s2, s3, s4, .val (.int i5), .val (.int i6), .val (.int i7), s8, s9, .val (.ref b6), s11] [])) _
  refine XS.goto X8.here hx rfl (pc0 := 78) (pc' := 135) rfl (hb hby at_78) (by decide) (by decide) ?_
  exact kt
theorem os0_105 {s0 : Slot} {s1 : Slot} {s2 : Slot} {s3 : Slot} {s4 : Slot} {z5 : Value} {z6 : Value} {z7 : Value} {z8 : Value} {s9 : Slot} {s10 : Slot} {s11 : Slot} {v : Addr} (h : One s10) : storeLocals #[s0, s1, s2, s3, s4, .val z5, .val z6, .val z7, .val z8, s9, s10, s11] 10 (.ref v) = some #[s0, s1, s2, s3, s4, .val z5, .val z6, .val z7, .val z8, s9, .val (.ref v), s11] := by
  rcases h with rfl | ⟨w, rfl, hw⟩
  · rfl
  · cases w <;> first | rfl | (simp [Value.category] at hw)
set_option maxRecDepth 65536 in
set_option maxHeartbeats 40000000 in
theorem own_mk3 {p : Program} {l : Launch} {e : Env} {s : State} {m : MethodId} {args : Array Value} {below : List Frame} {meth : Method} {c : Code} {T0 : State} {locs : List Loc} {Z : State} {a0 : Array Value} {h0 : Heap} {n0 : Nat} (s0 : Slot) (s1 : Slot) (s2 : Slot) (s3 : Slot) (s4 : Slot) (i5 : Int32) (i6 : Int32) (i7 : Int32) (i8 : Int32) (s9 : Slot) (s11 : Slot)
    (X0 : Stand p l e room_1 s m args below meth c T0 locs 0 0) (hx : p.tables.exec = Jvm.exec) (hZ : Z.Warmed39 s.vm) (hw : ∀ d ∈ tables_1, d.before a0 Z = true) (hby : c.code = code) (hml : c.maxLocals = 12) (hown : s.vm.findClass "com/example/skwash/skwash/command/GlobLowerCasePinLaw" = some m.cls) (e0 : T0.heap = h0) (N0 : Fr n0 locs) (Z0 : n0 ≤ h0.size) (hs10 : One .unset) (hc27 : ¬ (i5 = (0 : Int32))) (hc41 : ¬ (i5 = (1 : Int32))) (hc60 : ¬ (i5 = (2 : Int32))) (hc84 : i5 = (3 : Int32)) (hx0 : own_b i6 = i6) (hx1 : own_b i7 = i7) (hx2 : own_b i8 = i8) :
    ∃ (b6 : Addr) (T' : State) (h' : Heap) (locs' : List Loc), Stand p l e room_1 s m args below meth c T' locs' 1 4 ∧ T'.heap = h' ∧ Fr n0 locs' ∧ n0 ≤ h'.size ∧ (own_AF Z h' b6 .byte 3 (fun j => .int (own_x i6 i7 i8 0 j)) ∧ Exa Z h' b6 "[B" ∧ n0 ≤ b6) ∧
      ∀ target, Steps p.tables e below (T'.setTop (mkF m 135 #[s0, s1, s2, s3, s4, .val (.int i5), .val (.int i6), .val (.int i7), .val (.int i8), s9, .val (.ref b6), s11] [])) target → Steps p.tables e below (T0.setTop (mkF m 25 #[s0, s1, s2, s3, s4, .val (.int i5), .val (.int i6), .val (.int i7), .val (.int i8), s9, .unset, s11] [])) target := by
  obtain ⟨T6, h6, k6, X6, e6, E6, A6, Ex6, st6⟩ := newPE X0 hx hZ (hw _ (List.mem_of_getElem? (i := 1) rfl)) e0 (g := (mkF m 88 #[s0, s1, s2, s3, s4, .val (.int i5), .val (.int i6), .val (.int i7), .val (.int i8), s9, .unset, s11] [(.int (3 : Int32))])) rfl (hb hby at_88) rfl (by decide) (cap := 4) (by decide) (by decide) (by decide) (by decide) (ad := "[B") (by decide)
  obtain ⟨b6, g6⟩ : ∃ z, z = h0.size := ⟨_, rfl⟩
  rw [← g6] at A6 Ex6 st6
  have V_b6 : Arv Z h6 b6 k6 .byte (3 : Int32) [(.int (0 : Int32)), (.int (0 : Int32)), (.int (0 : Int32))] (.int (0 : Int32)) := (Arv.new A6 (by decide)).pad (pad_rep [] (.int (0 : Int32)) 3)
  have g_b6 : n0 ≤ b6 := Nat.le_trans Z0 (Nat.le_of_eq g6.symm)
  have sz_b6 : h0.size ≤ b6 := (Nat.le_trans (Keep.refl h0 []).1 (Nat.le_of_eq g6.symm))
  have K6 : Keep h0 h6 [] := (Keep.refl h0 []).ext E6
  obtain ⟨cl_b6_94, Ar_b6, q_b6, S_b6, N_b6, H_b6, G_b6⟩ := V_b6
  have hin94 : ¬ ((0 : Int32) < 0 ∨ cl_b6_94.slots.size ≤ ((0 : Int32)).toNatClampNeg) := inb_of S_b6 ⟨by decide, by decide⟩
  obtain ⟨T7, h7, X7, e7, W7, st7⟩ := stB X6 hx hZ e6 Ar_b6 (j := (0 : Int32)) hin94 (g := (mkF m 94 #[s0, s1, s2, s3, s4, .val (.int i5), .val (.int i6), .val (.int i7), .val (.int i8), s9, .unset, s11] [(.int i6), (.int (0 : Int32)), (.ref b6), (.ref b6)])) rfl rfl (hb hby at_94)
  have V_b6_7 := Arv.set Ar_b6 q_b6 S_b6 N_b6 H_b6 G_b6 (fits_nar_byte _) W7 0 rfl (Nat.le_of_ble_eq_true rfl)
  have K7 : Keep h0 h7 [] := K6.wr W7 (Or.inr sz_b6)
  have N7 := Fr.snoc X7 N0 g_b6
  obtain ⟨cl_b6_99, Ar_b6, q_b6, S_b6, N_b6, H_b6, G_b6⟩ := V_b6_7
  have hin99 : ¬ ((1 : Int32) < 0 ∨ cl_b6_99.slots.size ≤ ((1 : Int32)).toNatClampNeg) := inb_of S_b6 ⟨by decide, by decide⟩
  obtain ⟨T8, h8, X8, e8, W8, st8⟩ := stB X7 hx hZ e7 Ar_b6 (j := (1 : Int32)) hin99 (g := (mkF m 99 #[s0, s1, s2, s3, s4, .val (.int i5), .val (.int i6), .val (.int i7), .val (.int i8), s9, .unset, s11] [(.int i7), (.int (1 : Int32)), (.ref b6), (.ref b6)])) rfl rfl (hb hby at_99)
  have V_b6_8 := Arv.set Ar_b6 q_b6 S_b6 N_b6 H_b6 G_b6 (fits_nar_byte _) W8 1 rfl (Nat.le_of_ble_eq_true rfl)
  have K8 : Keep h0 h8 [] := K7.wr W8 (Or.inr sz_b6)
  have N8 := Fr.snoc X8 N7 g_b6
  obtain ⟨cl_b6_104, Ar_b6, q_b6, S_b6, N_b6, H_b6, G_b6⟩ := V_b6_8
  have hin104 : ¬ ((2 : Int32) < 0 ∨ cl_b6_104.slots.size ≤ ((2 : Int32)).toNatClampNeg) := inb_of S_b6 ⟨by decide, by decide⟩
  obtain ⟨T9, h9, X9, e9, W9, st9⟩ := stB X8 hx hZ e8 Ar_b6 (j := (2 : Int32)) hin104 (g := (mkF m 104 #[s0, s1, s2, s3, s4, .val (.int i5), .val (.int i6), .val (.int i7), .val (.int i8), s9, .unset, s11] [(.int i8), (.int (2 : Int32)), (.ref b6), (.ref b6)])) rfl rfl (hb hby at_104)
  have V_b6_9 := Arv.set Ar_b6 q_b6 S_b6 N_b6 H_b6 G_b6 (fits_nar_byte _) W9 2 rfl (Nat.le_of_ble_eq_true rfl)
  have K9 : Keep h0 h9 [] := K8.wr W9 (Or.inr sz_b6)
  have N9 := Fr.snoc X9 N8 g_b6
  refine ⟨b6, T9, _, _, X9, e9, N9, (Nat.le_trans Z0 K9.1), ⟨own_AF.of V_b6_9 3 rfl _ (fun j hj => by match j, hj with | 0, _ => exact congrArg Value.int hx0 | 1, _ => exact congrArg Value.int hx1 | 2, _ => exact congrArg Value.int hx2), (((Ex6.wr W7).wr W8).wr W9), g_b6⟩, fun target kt => ?_⟩
  show Steps p.tables e below (T0.setTop (mkF m 25 #[s0, s1, s2, s3, s4, .val (.int i5), .val (.int i6), .val (.int i7), .val (.int i8), s9, .unset, s11] [])) _
  refine XS.iload X0.here hx rfl (hb hby at_25) rfl ?_
  show Steps p.tables e below (T0.setTop (mkF m 27 #[s0, s1, s2, s3, s4, .val (.int i5), .val (.int i6), .val (.int i7), .val (.int i8), s9, .unset, s11] [(.int i5)])) _
  refine XS.ifYes X0.here hx rfl (pc0 := 27) (pc' := 38) rfl (hb hby at_27) rfl ((if0 _ _).trans (feq hc27).2) (by decide) (by decide) ?_
  show Steps p.tables e below (T0.setTop (mkF m 38 #[s0, s1, s2, s3, s4, .val (.int i5), .val (.int i6), .val (.int i7), .val (.int i8), s9, .unset, s11] [])) _
  refine XS.iload X0.here hx rfl (hb hby at_38) rfl ?_
  show Steps p.tables e below (T0.setTop (mkF m 40 #[s0, s1, s2, s3, s4, .val (.int i5), .val (.int i6), .val (.int i7), .val (.int i8), s9, .unset, s11] [(.int i5)])) _
  refine XS.iconst X0.here hx rfl (hb hby at_40) ?_
  show Steps p.tables e below (T0.setTop (mkF m 41 #[s0, s1, s2, s3, s4, .val (.int i5), .val (.int i6), .val (.int i7), .val (.int i8), s9, .unset, s11] [(.int (1 : Int32)), (.int i5)])) _
  refine XS.icmpYes X0.here hx rfl (pc0 := 41) (pc' := 57) rfl (hb hby at_41) rfl (feq hc41).2 (by decide) (by decide) ?_
  show Steps p.tables e below (T0.setTop (mkF m 57 #[s0, s1, s2, s3, s4, .val (.int i5), .val (.int i6), .val (.int i7), .val (.int i8), s9, .unset, s11] [])) _
  refine XS.iload X0.here hx rfl (hb hby at_57) rfl ?_
  show Steps p.tables e below (T0.setTop (mkF m 59 #[s0, s1, s2, s3, s4, .val (.int i5), .val (.int i6), .val (.int i7), .val (.int i8), s9, .unset, s11] [(.int i5)])) _
  refine XS.iconst X0.here hx rfl (hb hby at_59) ?_
  show Steps p.tables e below (T0.setTop (mkF m 60 #[s0, s1, s2, s3, s4, .val (.int i5), .val (.int i6), .val (.int i7), .val (.int i8), s9, .unset, s11] [(.int (2 : Int32)), (.int i5)])) _
  refine XS.icmpYes X0.here hx rfl (pc0 := 60) (pc' := 81) rfl (hb hby at_60) rfl (feq hc60).2 (by decide) (by decide) ?_
  show Steps p.tables e below (T0.setTop (mkF m 81 #[s0, s1, s2, s3, s4, .val (.int i5), .val (.int i6), .val (.int i7), .val (.int i8), s9, .unset, s11] [])) _
  refine XS.iload X0.here hx rfl (hb hby at_81) rfl ?_
  show Steps p.tables e below (T0.setTop (mkF m 83 #[s0, s1, s2, s3, s4, .val (.int i5), .val (.int i6), .val (.int i7), .val (.int i8), s9, .unset, s11] [(.int i5)])) _
  refine XS.iconst X0.here hx rfl (hb hby at_83) ?_
  show Steps p.tables e below (T0.setTop (mkF m 84 #[s0, s1, s2, s3, s4, .val (.int i5), .val (.int i6), .val (.int i7), .val (.int i8), s9, .unset, s11] [(.int (3 : Int32)), (.int i5)])) _
  refine XS.icmpNo X0.here hx rfl (hb hby at_84) rfl (teq hc84).2 ?_
  show Steps p.tables e below (T0.setTop (mkF m 87 #[s0, s1, s2, s3, s4, .val (.int i5), .val (.int i6), .val (.int i7), .val (.int i8), s9, .unset, s11] [])) _
  refine XS.iconst X0.here hx rfl (hb hby at_87) ?_
  show Steps p.tables e below (T0.setTop (mkF m 88 #[s0, s1, s2, s3, s4, .val (.int i5), .val (.int i6), .val (.int i7), .val (.int i8), s9, .unset, s11] [(.int (3 : Int32))])) _
  refine st6 _ ?_
  show Steps p.tables e below (T6.setTop (mkF m 90 #[s0, s1, s2, s3, s4, .val (.int i5), .val (.int i6), .val (.int i7), .val (.int i8), s9, .unset, s11] [(.ref b6)])) _
  refine XS.dup X6.here hx rfl (hb hby at_90) rfl rfl ?_
  show Steps p.tables e below (T6.setTop (mkF m 91 #[s0, s1, s2, s3, s4, .val (.int i5), .val (.int i6), .val (.int i7), .val (.int i8), s9, .unset, s11] [(.ref b6), (.ref b6)])) _
  refine XS.iconst X6.here hx rfl (hb hby at_91) ?_
  show Steps p.tables e below (T6.setTop (mkF m 92 #[s0, s1, s2, s3, s4, .val (.int i5), .val (.int i6), .val (.int i7), .val (.int i8), s9, .unset, s11] [(.int (0 : Int32)), (.ref b6), (.ref b6)])) _
  refine XS.iload X6.here hx rfl (hb hby at_92) rfl ?_
  show Steps p.tables e below (T6.setTop (mkF m 94 #[s0, s1, s2, s3, s4, .val (.int i5), .val (.int i6), .val (.int i7), .val (.int i8), s9, .unset, s11] [(.int i6), (.int (0 : Int32)), (.ref b6), (.ref b6)])) _
  refine st7 _ ?_
  show Steps p.tables e below (T7.setTop (mkF m 95 #[s0, s1, s2, s3, s4, .val (.int i5), .val (.int i6), .val (.int i7), .val (.int i8), s9, .unset, s11] [(.ref b6)])) _
  refine XS.dup X7.here hx rfl (hb hby at_95) rfl rfl ?_
  show Steps p.tables e below (T7.setTop (mkF m 96 #[s0, s1, s2, s3, s4, .val (.int i5), .val (.int i6), .val (.int i7), .val (.int i8), s9, .unset, s11] [(.ref b6), (.ref b6)])) _
  refine XS.iconst X7.here hx rfl (hb hby at_96) ?_
  show Steps p.tables e below (T7.setTop (mkF m 97 #[s0, s1, s2, s3, s4, .val (.int i5), .val (.int i6), .val (.int i7), .val (.int i8), s9, .unset, s11] [(.int (1 : Int32)), (.ref b6), (.ref b6)])) _
  refine XS.iload X7.here hx rfl (hb hby at_97) rfl ?_
  show Steps p.tables e below (T7.setTop (mkF m 99 #[s0, s1, s2, s3, s4, .val (.int i5), .val (.int i6), .val (.int i7), .val (.int i8), s9, .unset, s11] [(.int i7), (.int (1 : Int32)), (.ref b6), (.ref b6)])) _
  refine st8 _ ?_
  show Steps p.tables e below (T8.setTop (mkF m 100 #[s0, s1, s2, s3, s4, .val (.int i5), .val (.int i6), .val (.int i7), .val (.int i8), s9, .unset, s11] [(.ref b6)])) _
  refine XS.dup X8.here hx rfl (hb hby at_100) rfl rfl ?_
  show Steps p.tables e below (T8.setTop (mkF m 101 #[s0, s1, s2, s3, s4, .val (.int i5), .val (.int i6), .val (.int i7), .val (.int i8), s9, .unset, s11] [(.ref b6), (.ref b6)])) _
  refine XS.iconst X8.here hx rfl (hb hby at_101) ?_
  show Steps p.tables e below (T8.setTop (mkF m 102 #[s0, s1, s2, s3, s4, .val (.int i5), .val (.int i6), .val (.int i7), .val (.int i8), s9, .unset, s11] [(.int (2 : Int32)), (.ref b6), (.ref b6)])) _
  refine XS.iload X8.here hx rfl (hb hby at_102) rfl ?_
  show Steps p.tables e below (T8.setTop (mkF m 104 #[s0, s1, s2, s3, s4, .val (.int i5), .val (.int i6), .val (.int i7), .val (.int i8), s9, .unset, s11] [(.int i8), (.int (2 : Int32)), (.ref b6), (.ref b6)])) _
  refine st9 _ ?_
  show Steps p.tables e below (T9.setTop (mkF m 105 #[s0, s1, s2, s3, s4, .val (.int i5), .val (.int i6), .val (.int i7), .val (.int i8), s9, .unset, s11] [(.ref b6)])) _
  refine XS.astore X9.here hx rfl (hb hby at_105) rfl rfl (l' := #[s0, s1, s2, s3, s4, .val (.int i5), .val (.int i6), .val (.int i7), .val (.int i8), s9, .val (.ref b6), s11]) (os0_105 hs10) ?_
  show Steps p.tables e below (T9.setTop (mkF m 107 #[s0, s1, s2, s3, s4, .val (.int i5), .val (.int i6), .val (.int i7), .val (.int i8), s9, .val (.ref b6), s11] [])) _
  refine XS.goto X9.here hx rfl (pc0 := 107) (pc' := 135) rfl (hb hby at_107) (by decide) (by decide) ?_
  exact kt
theorem os0_133 {s0 : Slot} {s1 : Slot} {s2 : Slot} {s3 : Slot} {s4 : Slot} {z5 : Value} {z6 : Value} {z7 : Value} {z8 : Value} {z9 : Value} {s10 : Slot} {s11 : Slot} {v : Addr} (h : One s10) : storeLocals #[s0, s1, s2, s3, s4, .val z5, .val z6, .val z7, .val z8, .val z9, s10, s11] 10 (.ref v) = some #[s0, s1, s2, s3, s4, .val z5, .val z6, .val z7, .val z8, .val z9, .val (.ref v), s11] := by
  rcases h with rfl | ⟨w, rfl, hw⟩
  · rfl
  · cases w <;> first | rfl | (simp [Value.category] at hw)
set_option maxRecDepth 65536 in
set_option maxHeartbeats 40000000 in
theorem own_mk4 {p : Program} {l : Launch} {e : Env} {s : State} {m : MethodId} {args : Array Value} {below : List Frame} {meth : Method} {c : Code} {T0 : State} {locs : List Loc} {Z : State} {a0 : Array Value} {h0 : Heap} {n0 : Nat} (s0 : Slot) (s1 : Slot) (s2 : Slot) (s3 : Slot) (s4 : Slot) (i5 : Int32) (i6 : Int32) (i7 : Int32) (i8 : Int32) (i9 : Int32) (s11 : Slot)
    (X0 : Stand p l e room_1 s m args below meth c T0 locs 0 0) (hx : p.tables.exec = Jvm.exec) (hZ : Z.Warmed39 s.vm) (hw : ∀ d ∈ tables_1, d.before a0 Z = true) (hby : c.code = code) (hml : c.maxLocals = 12) (hown : s.vm.findClass "com/example/skwash/skwash/command/GlobLowerCasePinLaw" = some m.cls) (e0 : T0.heap = h0) (N0 : Fr n0 locs) (Z0 : n0 ≤ h0.size) (hs10 : One .unset) (hc27 : ¬ (i5 = (0 : Int32))) (hc41 : ¬ (i5 = (1 : Int32))) (hc60 : ¬ (i5 = (2 : Int32))) (hc84 : ¬ (i5 = (3 : Int32))) (hx0 : own_b i6 = i6) (hx1 : own_b i7 = i7) (hx2 : own_b i8 = i8) (hx3 : own_b i9 = i9) :
    ∃ (b6 : Addr) (T' : State) (h' : Heap) (locs' : List Loc), Stand p l e room_1 s m args below meth c T' locs' 1 4 ∧ T'.heap = h' ∧ Fr n0 locs' ∧ n0 ≤ h'.size ∧ (own_AF Z h' b6 .byte 4 (fun j => .int (own_x i6 i7 i8 i9 j)) ∧ Exa Z h' b6 "[B" ∧ n0 ≤ b6) ∧
      ∀ target, Steps p.tables e below (T'.setTop (mkF m 135 #[s0, s1, s2, s3, s4, .val (.int i5), .val (.int i6), .val (.int i7), .val (.int i8), .val (.int i9), .val (.ref b6), s11] [])) target → Steps p.tables e below (T0.setTop (mkF m 25 #[s0, s1, s2, s3, s4, .val (.int i5), .val (.int i6), .val (.int i7), .val (.int i8), .val (.int i9), .unset, s11] [])) target := by
  obtain ⟨T6, h6, k6, X6, e6, E6, A6, Ex6, st6⟩ := newPE X0 hx hZ (hw _ (List.mem_of_getElem? (i := 1) rfl)) e0 (g := (mkF m 111 #[s0, s1, s2, s3, s4, .val (.int i5), .val (.int i6), .val (.int i7), .val (.int i8), .val (.int i9), .unset, s11] [(.int (4 : Int32))])) rfl (hb hby at_111) rfl (by decide) (cap := 4) (by decide) (by decide) (by decide) (by decide) (ad := "[B") (by decide)
  obtain ⟨b6, g6⟩ : ∃ z, z = h0.size := ⟨_, rfl⟩
  rw [← g6] at A6 Ex6 st6
  have V_b6 : Arv Z h6 b6 k6 .byte (4 : Int32) [(.int (0 : Int32)), (.int (0 : Int32)), (.int (0 : Int32)), (.int (0 : Int32))] (.int (0 : Int32)) := (Arv.new A6 (by decide)).pad (pad_rep [] (.int (0 : Int32)) 4)
  have g_b6 : n0 ≤ b6 := Nat.le_trans Z0 (Nat.le_of_eq g6.symm)
  have sz_b6 : h0.size ≤ b6 := (Nat.le_trans (Keep.refl h0 []).1 (Nat.le_of_eq g6.symm))
  have K6 : Keep h0 h6 [] := (Keep.refl h0 []).ext E6
  obtain ⟨cl_b6_117, Ar_b6, q_b6, S_b6, N_b6, H_b6, G_b6⟩ := V_b6
  have hin117 : ¬ ((0 : Int32) < 0 ∨ cl_b6_117.slots.size ≤ ((0 : Int32)).toNatClampNeg) := inb_of S_b6 ⟨by decide, by decide⟩
  obtain ⟨T7, h7, X7, e7, W7, st7⟩ := stB X6 hx hZ e6 Ar_b6 (j := (0 : Int32)) hin117 (g := (mkF m 117 #[s0, s1, s2, s3, s4, .val (.int i5), .val (.int i6), .val (.int i7), .val (.int i8), .val (.int i9), .unset, s11] [(.int i6), (.int (0 : Int32)), (.ref b6), (.ref b6)])) rfl rfl (hb hby at_117)
  have V_b6_7 := Arv.set Ar_b6 q_b6 S_b6 N_b6 H_b6 G_b6 (fits_nar_byte _) W7 0 rfl (Nat.le_of_ble_eq_true rfl)
  have K7 : Keep h0 h7 [] := K6.wr W7 (Or.inr sz_b6)
  have N7 := Fr.snoc X7 N0 g_b6
  obtain ⟨cl_b6_122, Ar_b6, q_b6, S_b6, N_b6, H_b6, G_b6⟩ := V_b6_7
  have hin122 : ¬ ((1 : Int32) < 0 ∨ cl_b6_122.slots.size ≤ ((1 : Int32)).toNatClampNeg) := inb_of S_b6 ⟨by decide, by decide⟩
  obtain ⟨T8, h8, X8, e8, W8, st8⟩ := stB X7 hx hZ e7 Ar_b6 (j := (1 : Int32)) hin122 (g := (mkF m 122 #[s0, s1, s2, s3, s4, .val (.int i5), .val (.int i6), .val (.int i7), .val (.int i8), .val (.int i9), .unset, s11] [(.int i7), (.int (1 : Int32)), (.ref b6), (.ref b6)])) rfl rfl (hb hby at_122)
  have V_b6_8 := Arv.set Ar_b6 q_b6 S_b6 N_b6 H_b6 G_b6 (fits_nar_byte _) W8 1 rfl (Nat.le_of_ble_eq_true rfl)
  have K8 : Keep h0 h8 [] := K7.wr W8 (Or.inr sz_b6)
  have N8 := Fr.snoc X8 N7 g_b6
  obtain ⟨cl_b6_127, Ar_b6, q_b6, S_b6, N_b6, H_b6, G_b6⟩ := V_b6_8
  have hin127 : ¬ ((2 : Int32) < 0 ∨ cl_b6_127.slots.size ≤ ((2 : Int32)).toNatClampNeg) := inb_of S_b6 ⟨by decide, by decide⟩
  obtain ⟨T9, h9, X9, e9, W9, st9⟩ := stB X8 hx hZ e8 Ar_b6 (j := (2 : Int32)) hin127 (g := (mkF m 127 #[s0, s1, s2, s3, s4, .val (.int i5), .val (.int i6), .val (.int i7), .val (.int i8), .val (.int i9), .unset, s11] [(.int i8), (.int (2 : Int32)), (.ref b6), (.ref b6)])) rfl rfl (hb hby at_127)
  have V_b6_9 := Arv.set Ar_b6 q_b6 S_b6 N_b6 H_b6 G_b6 (fits_nar_byte _) W9 2 rfl (Nat.le_of_ble_eq_true rfl)
  have K9 : Keep h0 h9 [] := K8.wr W9 (Or.inr sz_b6)
  have N9 := Fr.snoc X9 N8 g_b6
  obtain ⟨cl_b6_132, Ar_b6, q_b6, S_b6, N_b6, H_b6, G_b6⟩ := V_b6_9
  have hin132 : ¬ ((3 : Int32) < 0 ∨ cl_b6_132.slots.size ≤ ((3 : Int32)).toNatClampNeg) := inb_of S_b6 ⟨by decide, by decide⟩
  obtain ⟨T10, h10, X10, e10, W10, st10⟩ := stB X9 hx hZ e9 Ar_b6 (j := (3 : Int32)) hin132 (g := (mkF m 132 #[s0, s1, s2, s3, s4, .val (.int i5), .val (.int i6), .val (.int i7), .val (.int i8), .val (.int i9), .unset, s11] [(.int i9), (.int (3 : Int32)), (.ref b6), (.ref b6)])) rfl rfl (hb hby at_132)
  have V_b6_10 := Arv.set Ar_b6 q_b6 S_b6 N_b6 H_b6 G_b6 (fits_nar_byte _) W10 3 rfl (Nat.le_of_ble_eq_true rfl)
  have K10 : Keep h0 h10 [] := K9.wr W10 (Or.inr sz_b6)
  have N10 := Fr.snoc X10 N9 g_b6
  refine ⟨b6, T10, _, _, X10, e10, N10, (Nat.le_trans Z0 K10.1), ⟨own_AF.of V_b6_10 4 rfl _ (fun j hj => by match j, hj with | 0, _ => exact congrArg Value.int hx0 | 1, _ => exact congrArg Value.int hx1 | 2, _ => exact congrArg Value.int hx2 | 3, _ => exact congrArg Value.int hx3), ((((Ex6.wr W7).wr W8).wr W9).wr W10), g_b6⟩, fun target kt => ?_⟩
  show Steps p.tables e below (T0.setTop (mkF m 25 #[s0, s1, s2, s3, s4, .val (.int i5), .val (.int i6), .val (.int i7), .val (.int i8), .val (.int i9), .unset, s11] [])) _
  refine XS.iload X0.here hx rfl (hb hby at_25) rfl ?_
  show Steps p.tables e below (T0.setTop (mkF m 27 #[s0, s1, s2, s3, s4, .val (.int i5), .val (.int i6), .val (.int i7), .val (.int i8), .val (.int i9), .unset, s11] [(.int i5)])) _
  refine XS.ifYes X0.here hx rfl (pc0 := 27) (pc' := 38) rfl (hb hby at_27) rfl ((if0 _ _).trans (feq hc27).2) (by decide) (by decide) ?_
  show Steps p.tables e below (T0.setTop (mkF m 38 #[s0, s1, s2, s3, s4, .val (.int i5), .val (.int i6), .val (.int i7), .val (.int i8), .val (.int i9), .unset, s11] [])) _
  refine XS.iload X0.here hx rfl (hb hby at_38) rfl ?_
  show Steps p.tables e below (T0.setTop (mkF m 40 #[s0, s1, s2, s3, s4, .val (.int i5), .val (.int i6), .val (.int i7), .val (.int i8), .val (.int i9), .unset, s11] [(.int i5)])) _
  refine XS.iconst X0.here hx rfl (hb hby at_40) ?_
  show Steps p.tables e below (T0.setTop (mkF m 41 #[s0, s1, s2, s3, s4, .val (.int i5), .val (.int i6), .val (.int i7), .val (.int i8), .val (.int i9), .unset, s11] [(.int (1 : Int32)), (.int i5)])) _
  refine XS.icmpYes X0.here hx rfl (pc0 := 41) (pc' := 57) rfl (hb hby at_41) rfl (feq hc41).2 (by decide) (by decide) ?_
  show Steps p.tables e below (T0.setTop (mkF m 57 #[s0, s1, s2, s3, s4, .val (.int i5), .val (.int i6), .val (.int i7), .val (.int i8), .val (.int i9), .unset, s11] [])) _
  refine XS.iload X0.here hx rfl (hb hby at_57) rfl ?_
  show Steps p.tables e below (T0.setTop (mkF m 59 #[s0, s1, s2, s3, s4, .val (.int i5), .val (.int i6), .val (.int i7), .val (.int i8), .val (.int i9), .unset, s11] [(.int i5)])) _
  refine XS.iconst X0.here hx rfl (hb hby at_59) ?_
  show Steps p.tables e below (T0.setTop (mkF m 60 #[s0, s1, s2, s3, s4, .val (.int i5), .val (.int i6), .val (.int i7), .val (.int i8), .val (.int i9), .unset, s11] [(.int (2 : Int32)), (.int i5)])) _
  refine XS.icmpYes X0.here hx rfl (pc0 := 60) (pc' := 81) rfl (hb hby at_60) rfl (feq hc60).2 (by decide) (by decide) ?_
  show Steps p.tables e below (T0.setTop (mkF m 81 #[s0, s1, s2, s3, s4, .val (.int i5), .val (.int i6), .val (.int i7), .val (.int i8), .val (.int i9), .unset, s11] [])) _
  refine XS.iload X0.here hx rfl (hb hby at_81) rfl ?_
  show Steps p.tables e below (T0.setTop (mkF m 83 #[s0, s1, s2, s3, s4, .val (.int i5), .val (.int i6), .val (.int i7), .val (.int i8), .val (.int i9), .unset, s11] [(.int i5)])) _
  refine XS.iconst X0.here hx rfl (hb hby at_83) ?_
  show Steps p.tables e below (T0.setTop (mkF m 84 #[s0, s1, s2, s3, s4, .val (.int i5), .val (.int i6), .val (.int i7), .val (.int i8), .val (.int i9), .unset, s11] [(.int (3 : Int32)), (.int i5)])) _
  refine XS.icmpYes X0.here hx rfl (pc0 := 84) (pc' := 110) rfl (hb hby at_84) rfl (feq hc84).2 (by decide) (by decide) ?_
  show Steps p.tables e below (T0.setTop (mkF m 110 #[s0, s1, s2, s3, s4, .val (.int i5), .val (.int i6), .val (.int i7), .val (.int i8), .val (.int i9), .unset, s11] [])) _
  refine XS.iconst X0.here hx rfl (hb hby at_110) ?_
  show Steps p.tables e below (T0.setTop (mkF m 111 #[s0, s1, s2, s3, s4, .val (.int i5), .val (.int i6), .val (.int i7), .val (.int i8), .val (.int i9), .unset, s11] [(.int (4 : Int32))])) _
  refine st6 _ ?_
  show Steps p.tables e below (T6.setTop (mkF m 113 #[s0, s1, s2, s3, s4, .val (.int i5), .val (.int i6), .val (.int i7), .val (.int i8), .val (.int i9), .unset, s11] [(.ref b6)])) _
  refine XS.dup X6.here hx rfl (hb hby at_113) rfl rfl ?_
  show Steps p.tables e below (T6.setTop (mkF m 114 #[s0, s1, s2, s3, s4, .val (.int i5), .val (.int i6), .val (.int i7), .val (.int i8), .val (.int i9), .unset, s11] [(.ref b6), (.ref b6)])) _
  refine XS.iconst X6.here hx rfl (hb hby at_114) ?_
  show Steps p.tables e below (T6.setTop (mkF m 115 #[s0, s1, s2, s3, s4, .val (.int i5), .val (.int i6), .val (.int i7), .val (.int i8), .val (.int i9), .unset, s11] [(.int (0 : Int32)), (.ref b6), (.ref b6)])) _
  refine XS.iload X6.here hx rfl (hb hby at_115) rfl ?_
  show Steps p.tables e below (T6.setTop (mkF m 117 #[s0, s1, s2, s3, s4, .val (.int i5), .val (.int i6), .val (.int i7), .val (.int i8), .val (.int i9), .unset, s11] [(.int i6), (.int (0 : Int32)), (.ref b6), (.ref b6)])) _
  refine st7 _ ?_
  show Steps p.tables e below (T7.setTop (mkF m 118 #[s0, s1, s2, s3, s4, .val (.int i5), .val (.int i6), .val (.int i7), .val (.int i8), .val (.int i9), .unset, s11] [(.ref b6)])) _
  refine XS.dup X7.here hx rfl (hb hby at_118) rfl rfl ?_
  show Steps p.tables e below (T7.setTop (mkF m 119 #[s0, s1, s2, s3, s4, .val (.int i5), .val (.int i6), .val (.int i7), .val (.int i8), .val (.int i9), .unset, s11] [(.ref b6), (.ref b6)])) _
  refine XS.iconst X7.here hx rfl (hb hby at_119) ?_
  show Steps p.tables e below (T7.setTop (mkF m 120 #[s0, s1, s2, s3, s4, .val (.int i5), .val (.int i6), .val (.int i7), .val (.int i8), .val (.int i9), .unset, s11] [(.int (1 : Int32)), (.ref b6), (.ref b6)])) _
  refine XS.iload X7.here hx rfl (hb hby at_120) rfl ?_
  show Steps p.tables e below (T7.setTop (mkF m 122 #[s0, s1, s2, s3, s4, .val (.int i5), .val (.int i6), .val (.int i7), .val (.int i8), .val (.int i9), .unset, s11] [(.int i7), (.int (1 : Int32)), (.ref b6), (.ref b6)])) _
  refine st8 _ ?_
  show Steps p.tables e below (T8.setTop (mkF m 123 #[s0, s1, s2, s3, s4, .val (.int i5), .val (.int i6), .val (.int i7), .val (.int i8), .val (.int i9), .unset, s11] [(.ref b6)])) _
  refine XS.dup X8.here hx rfl (hb hby at_123) rfl rfl ?_
  show Steps p.tables e below (T8.setTop (mkF m 124 #[s0, s1, s2, s3, s4, .val (.int i5), .val (.int i6), .val (.int i7), .val (.int i8), .val (.int i9), .unset, s11] [(.ref b6), (.ref b6)])) _
  refine XS.iconst X8.here hx rfl (hb hby at_124) ?_
  show Steps p.tables e below (T8.setTop (mkF m 125 #[s0, s1, s2, s3, s4, .val (.int i5), .val (.int i6), .val (.int i7), .val (.int i8), .val (.int i9), .unset, s11] [(.int (2 : Int32)), (.ref b6), (.ref b6)])) _
  refine XS.iload X8.here hx rfl (hb hby at_125) rfl ?_
  show Steps p.tables e below (T8.setTop (mkF m 127 #[s0, s1, s2, s3, s4, .val (.int i5), .val (.int i6), .val (.int i7), .val (.int i8), .val (.int i9), .unset, s11] [(.int i8), (.int (2 : Int32)), (.ref b6), (.ref b6)])) _
  refine st9 _ ?_
  show Steps p.tables e below (T9.setTop (mkF m 128 #[s0, s1, s2, s3, s4, .val (.int i5), .val (.int i6), .val (.int i7), .val (.int i8), .val (.int i9), .unset, s11] [(.ref b6)])) _
  refine XS.dup X9.here hx rfl (hb hby at_128) rfl rfl ?_
  show Steps p.tables e below (T9.setTop (mkF m 129 #[s0, s1, s2, s3, s4, .val (.int i5), .val (.int i6), .val (.int i7), .val (.int i8), .val (.int i9), .unset, s11] [(.ref b6), (.ref b6)])) _
  refine XS.iconst X9.here hx rfl (hb hby at_129) ?_
  show Steps p.tables e below (T9.setTop (mkF m 130 #[s0, s1, s2, s3, s4, .val (.int i5), .val (.int i6), .val (.int i7), .val (.int i8), .val (.int i9), .unset, s11] [(.int (3 : Int32)), (.ref b6), (.ref b6)])) _
  refine XS.iload X9.here hx rfl (hb hby at_130) rfl ?_
  show Steps p.tables e below (T9.setTop (mkF m 132 #[s0, s1, s2, s3, s4, .val (.int i5), .val (.int i6), .val (.int i7), .val (.int i8), .val (.int i9), .unset, s11] [(.int i9), (.int (3 : Int32)), (.ref b6), (.ref b6)])) _
  refine st10 _ ?_
  show Steps p.tables e below (T10.setTop (mkF m 133 #[s0, s1, s2, s3, s4, .val (.int i5), .val (.int i6), .val (.int i7), .val (.int i8), .val (.int i9), .unset, s11] [(.ref b6)])) _
  refine XS.astore X10.here hx rfl (hb hby at_133) rfl rfl (l' := #[s0, s1, s2, s3, s4, .val (.int i5), .val (.int i6), .val (.int i7), .val (.int i8), .val (.int i9), .val (.ref b6), s11]) (os0_133 hs10) ?_
  exact kt
theorem pd_0_0 : parseMethodDescriptor "([B)[B" = some ⟨[(.array .byte)], some (.array .byte)⟩ := by decide +kernel
theorem os0_140 {s0 : Slot} {s1 : Slot} {s2 : Slot} {s3 : Slot} {s4 : Slot} {s5 : Slot} {s6 : Slot} {s7 : Slot} {s8 : Slot} {s9 : Slot} {z10 : Value} {s11 : Slot} {v : Addr} (h : One s11) : storeLocals #[s0, s1, s2, s3, s4, s5, s6, s7, s8, s9, .val z10, s11] 11 (.ref v) = some #[s0, s1, s2, s3, s4, s5, s6, s7, s8, s9, .val z10, .val (.ref v)] := by
  rcases h with rfl | ⟨w, rfl, hw⟩
  · rfl
  · cases w <;> first | rfl | (simp [Value.category] at hw)
set_option maxRecDepth 65536 in
set_option maxHeartbeats 40000000 in
theorem tn0_135_142 {p : Program} {l : Launch} {e : Env} {s : State} {m : MethodId} {args : Array Value} {below : List Frame} {meth : Method} {c : Code} {T0 : State} {locs : List Loc} {Z : State} {a0 : Array Value} {h0 : Heap} {n0 : Nat} (s0 : Slot) (s1 : Slot) (s2 : Slot) (s3 : Slot) (s4 : Slot) (s5 : Slot) (s6 : Slot) (s7 : Slot) (s8 : Slot) (s9 : Slot) (o10 : Addr) (N : Nat) (hN : N ≤ 4) (f : Nat → Int32) (hf : ∀ j, own_b (f j) = f j)
    (X0 : Stand p l e room_1 s m args below meth c T0 locs 1 4) (hx : p.tables.exec = Jvm.exec) (hZ : Z.Warmed39 s.vm) (hw : ∀ d ∈ tables_1, d.before a0 Z = true) (hby : c.code = code) (hml : c.maxLocals = 12) (hown : s.vm.findClass "com/example/skwash/skwash/command/GlobLowerCasePinLaw" = some m.cls) (e0 : T0.heap = h0) (N0 : Fr n0 locs) (Z0 : n0 ≤ h0.size) (hs11 : One .unset) (V : own_AF Z h0 o10 .byte N (fun j => .int (f j))) (Ex : Exa Z h0 o10 "[B") :
    ∃ (br : Addr) (T' : State) (h' : Heap) (locs' : List Loc), Stand p l e room_1 s m args below meth c T' locs' 2 8 ∧ T'.heap = h' ∧ Fr n0 locs' ∧ n0 ≤ h'.size ∧ (own_AF Z h' br .byte N (fun j => .int (own_lw (f j))) ∧ Keep h0 h' []) ∧
      ∀ target, Steps p.tables e below (T'.setTop (mkF m 142 #[s0, s1, s2, s3, s4, s5, s6, s7, s8, s9, .val (.ref o10), .val (.ref br)] [])) target → Steps p.tables e below (T0.setTop (mkF m 135 #[s0, s1, s2, s3, s4, s5, s6, s7, s8, s9, .val (.ref o10), .unset] [])) target := by
  obtain ⟨_, _, ⟨T6, L6, k6, n6⟩, -, X6, ⟨Lc6, hQ6, l6, y6, z6⟩, st6⟩ := Jvm.LawKit.callS X0 hx (y := (⟨"com/example/skwash/skwash/command/Glob", "lowerCase", "([B)[B"⟩ : MethodName)) hown (mvT hZ (hw _ (List.mem_of_getElem? (i := 2) rfl))) (mvT hZ (hw _ (List.mem_of_getElem? (i := 3) rfl))) (mvT hZ (hw _ (List.mem_of_getElem? (i := 4) rfl))) (mvT hZ (hw _ (List.mem_of_getElem? (i := 5) rfl))) (by decide) (backOf (W := 0) (rm1 l Z a0 hw [] o10 N hN f hf h0 n0 Z0 V Ex) hZ (hw _ (List.mem_of_getElem? (i := 5) rfl)) (hw _ (List.mem_of_getElem? (i := 4) rfl)) (by decide) (by decide)) (g := (mkF m 137 #[s0, s1, s2, s3, s4, s5, s6, s7, s8, s9, .val (.ref o10), .unset] [(.ref o10)])) rfl (by rw [hml]; rfl) (argsL := [(.ref o10)]) (rest := []) (lenOf pd_0_0 rfl) rfl (by show 2 * 0 + _ ≤ _; exact Nat.le_of_eq rfl) (hb hby at_137) (fun _ _ => ⟨rfl, e0, (Nat.le_of_ble_eq_true rfl), (Nat.le_of_ble_eq_true rfl)⟩)
  dsimp only [Pt.U, Pt.locs, Pt.cells, Pt.slots] at X6 l6 y6 z6 st6 hQ6
  subst l6 y6 z6
  obtain ⟨br, rfl, N6q, K6, V6⟩ := hQ6
  have N6 := Fr.app N0 N6q
  refine ⟨br, T6, _, _, X6, rfl, N6, (Nat.le_trans Z0 K6.1), ⟨V6, K6⟩, fun target kt => ?_⟩
  show Steps p.tables e below (T0.setTop (mkF m 135 #[s0, s1, s2, s3, s4, s5, s6, s7, s8, s9, .val (.ref o10), .unset] [])) _
  refine XS.aload X0.here hx rfl (hb hby at_135) rfl rfl ?_
  show Steps p.tables e below (T0.setTop (mkF m 137 #[s0, s1, s2, s3, s4, s5, s6, s7, s8, s9, .val (.ref o10), .unset] [(.ref o10)])) _
  refine st6 _ ?_
  show Steps p.tables e below (T6.setTop (mkF m 140 #[s0, s1, s2, s3, s4, s5, s6, s7, s8, s9, .val (.ref o10), .unset] [(.ref br)])) _
  refine XS.astore X6.here hx rfl (hb hby at_140) rfl rfl (l' := #[s0, s1, s2, s3, s4, s5, s6, s7, s8, s9, .val (.ref o10), .val (.ref br)]) (os0_140 hs11) ?_
  exact kt
set_option maxRecDepth 65536 in
set_option maxHeartbeats 40000000 in
theorem tn0_142_165 {p : Program} {l : Launch} {e : Env} {R : Room} {s : State} {m : MethodId} {args : Array Value} {below : List Frame} {meth : Method} {c : Code} {T0 : State} {locs : List Loc} {cells slots : Nat} {Z : State} {a0 : Array Value} {h0 : Heap} (s0 : Slot) (s1 : Slot) (s2 : Slot) (s3 : Slot) (s4 : Slot) (i5 : Int32) (s6 : Slot) (s7 : Slot) (s8 : Slot) (s9 : Slot) (o10 : Addr) (o11 : Addr) (cl_o11 : Cell) (z_o11 : Int32) (cl_o10 : Cell) (z_o10 : Int32)
    (X0 : Stand p l e R s m args below meth c T0 locs cells slots) (hx : p.tables.exec = Jvm.exec) (hZ : Z.Warmed39 s.vm) (hw : ∀ d ∈ tables_1, d.before a0 Z = true) (hby : c.code = code) (hml : c.maxLocals = 12) (hown : s.vm.findClass "com/example/skwash/skwash/command/GlobLowerCasePinLaw" = some m.cls) (e0 : T0.heap = h0) (Ar_o11 : Arr Z h0 o11 cl_o11 .byte) (S_o11 : cl_o11.slots.size = z_o11.toNatClampNeg) (N_o11 : ¬ z_o11 < 0) (Ar_o10 : Arr Z h0 o10 cl_o10 .byte) (S_o10 : cl_o10.slots.size = z_o10.toNatClampNeg) (N_o10 : ¬ z_o10 < 0) (hc152 : z_o11 = i5) (hc160 : z_o10 = i5) :
    ∃ (T' : State), Stand p l e R s m args below meth c T' locs cells slots ∧ T'.heap = h0 ∧
      ∀ target, Steps p.tables e below (T'.setTop (mkF m 165 #[s0, s1, s2, s3, s4, .val (.int i5), s6, s7, s8, s9, .val (.ref o10), .val (.ref o11)] [])) target → Steps p.tables e below (T0.setTop (mkF m 142 #[s0, s1, s2, s3, s4, .val (.int i5), s6, s7, s8, s9, .val (.ref o10), .val (.ref o11)] [])) target := by

  refine ⟨T0, X0, e0, fun target kt => ?_⟩
  show Steps p.tables e below (T0.setTop (mkF m 142 #[s0, s1, s2, s3, s4, .val (.int i5), s6, s7, s8, s9, .val (.ref o10), .val (.ref o11)] [])) _
  refine XS.aload X0.here hx rfl (hb hby at_142) rfl rfl ?_
  show Steps p.tables e below (T0.setTop (mkF m 144 #[s0, s1, s2, s3, s4, .val (.int i5), s6, s7, s8, s9, .val (.ref o10), .val (.ref o11)] [(.ref o11)])) _
  refine XS.ifnullNo X0.here hx rfl (hb hby at_144) rfl ?_
  show Steps p.tables e below (T0.setTop (mkF m 147 #[s0, s1, s2, s3, s4, .val (.int i5), s6, s7, s8, s9, .val (.ref o10), .val (.ref o11)] [])) _
  refine XS.aload X0.here hx rfl (hb hby at_147) rfl rfl ?_
  show Steps p.tables e below (T0.setTop (mkF m 149 #[s0, s1, s2, s3, s4, .val (.int i5), s6, s7, s8, s9, .val (.ref o10), .val (.ref o11)] [(.ref o11)])) _
  refine X0.arraylength hx (by rw [e0]; exact Ar_o11.1) (State.isArrayOf_alike hZ.alike Ar_o11.2.1) (g := (mkF m 149 #[s0, s1, s2, s3, s4, .val (.int i5), s6, s7, s8, s9, .val (.ref o10), .val (.ref o11)] [(.ref o11)])) rfl rfl (hb hby at_149) _ ?_
  rw [len_of S_o11 N_o11]
  show Steps p.tables e below (T0.setTop (mkF m 150 #[s0, s1, s2, s3, s4, .val (.int i5), s6, s7, s8, s9, .val (.ref o10), .val (.ref o11)] [(.int z_o11)])) _
  refine XS.iload X0.here hx rfl (hb hby at_150) rfl ?_
  show Steps p.tables e below (T0.setTop (mkF m 152 #[s0, s1, s2, s3, s4, .val (.int i5), s6, s7, s8, s9, .val (.ref o10), .val (.ref o11)] [(.int i5), (.int z_o11)])) _
  refine XS.icmpNo X0.here hx rfl (hb hby at_152) rfl (teq hc152).2 ?_
  show Steps p.tables e below (T0.setTop (mkF m 155 #[s0, s1, s2, s3, s4, .val (.int i5), s6, s7, s8, s9, .val (.ref o10), .val (.ref o11)] [])) _
  refine XS.aload X0.here hx rfl (hb hby at_155) rfl rfl ?_
  show Steps p.tables e below (T0.setTop (mkF m 157 #[s0, s1, s2, s3, s4, .val (.int i5), s6, s7, s8, s9, .val (.ref o10), .val (.ref o11)] [(.ref o10)])) _
  refine X0.arraylength hx (by rw [e0]; exact Ar_o10.1) (State.isArrayOf_alike hZ.alike Ar_o10.2.1) (g := (mkF m 157 #[s0, s1, s2, s3, s4, .val (.int i5), s6, s7, s8, s9, .val (.ref o10), .val (.ref o11)] [(.ref o10)])) rfl rfl (hb hby at_157) _ ?_
  rw [len_of S_o10 N_o10]
  show Steps p.tables e below (T0.setTop (mkF m 158 #[s0, s1, s2, s3, s4, .val (.int i5), s6, s7, s8, s9, .val (.ref o10), .val (.ref o11)] [(.int z_o10)])) _
  refine XS.iload X0.here hx rfl (hb hby at_158) rfl ?_
  show Steps p.tables e below (T0.setTop (mkF m 160 #[s0, s1, s2, s3, s4, .val (.int i5), s6, s7, s8, s9, .val (.ref o10), .val (.ref o11)] [(.int i5), (.int z_o10)])) _
  refine XS.icmpYes X0.here hx rfl (pc0 := 160) (pc' := 165) rfl (hb hby at_160) rfl (teq hc160).1 (by decide) (by decide) ?_
  exact kt
theorem pd_0_2 : parseMethodDescriptor "([B[BIIB)Z" = some ⟨[(.array .byte), (.array .byte), .int, .int, .byte], some .boolean⟩ := by decide +kernel
set_option maxRecDepth 65536 in
set_option maxHeartbeats 40000000 in
theorem tn0_165_230 {p : Program} {l : Launch} {e : Env} {s : State} {m : MethodId} {args : Array Value} {below : List Frame} {meth : Method} {c : Code} {T0 : State} {locs : List Loc} {Z : State} {a0 : Array Value} {h0 : Heap} {n0 : Nat} (s0 : Slot) (s1 : Slot) (s2 : Slot) (s3 : Slot) (s4 : Slot) (N : Nat) (i6 : Int32) (i7 : Int32) (i8 : Int32) (i9 : Int32) (o10 : Addr) (o11 : Addr) (f : Nat → Int32)
    (X0 : Stand p l e room_1 s m args below meth c T0 locs 2 8) (hx : p.tables.exec = Jvm.exec) (hZ : Z.Warmed39 s.vm) (hw : ∀ d ∈ tables_1, d.before a0 Z = true) (hby : c.code = code) (hml : c.maxLocals = 12) (hown : s.vm.findClass "com/example/skwash/skwash/command/GlobLowerCasePinLaw" = some m.cls) (e0 : T0.heap = h0) (N0 : Fr n0 locs) (Z0 : n0 ≤ h0.size) (V : own_AF Z h0 o10 .byte N (fun j => .int (f j))) (V2 : own_AF Z h0 o11 .byte N (fun j => .int (own_lw (f j)))) (ho0 : 0 < N → f 0 = i6) (hb0 : own_b i6 = i6) (ho1 : 1 < N → f 1 = i7) (hb1 : own_b i7 = i7) (ho2 : 2 < N → f 2 = i8) (hb2 : own_b i8 = i8) (ho3 : 3 < N → f 3 = i9) (hb3 : own_b i9 = i9) :
    ∃ (T' : State) (h' : Heap) (locs' : List Loc), Stand p l e room_1 s m args below meth c T' locs' 2 8 ∧ T'.heap = h' ∧ Fr n0 locs' ∧ n0 ≤ h'.size ∧ (True) ∧
      ∀ target, Steps p.tables e below (T'.setTop (mkF m 230 #[s0, s1, s2, s3, s4, .val (.int (Int32.ofNat N)), .val (.int i6), .val (.int i7), .val (.int i8), .val (.int i9), .val (.ref o10), .val (.ref o11)] [(.int (1 : Int32))])) target → Steps p.tables e below (T0.setTop (mkF m 165 #[s0, s1, s2, s3, s4, .val (.int (Int32.ofNat N)), .val (.int i6), .val (.int i7), .val (.int i8), .val (.int i9), .val (.ref o10), .val (.ref o11)] [])) target := by
  obtain ⟨_, _, ⟨T6, L6, k6, n6⟩, -, X6, ⟨Lc6, hQ6, l6, y6, z6⟩, st6⟩ := Jvm.LawKit.callS X0 hx (y := (⟨"com/example/skwash/skwash/command/GlobLowerCasePinLaw", "ok", "([B[BIIB)Z"⟩ : MethodName)) hown (mvT hZ (hw _ (List.mem_of_getElem? (i := 15) rfl))) (mvT hZ (hw _ (List.mem_of_getElem? (i := 16) rfl))) (mvT hZ (hw _ (List.mem_of_getElem? (i := 17) rfl))) (mvT hZ (hw _ (List.mem_of_getElem? (i := 18) rfl))) (by decide) (backOf (W := 0) (own_okw l Z a0 hw [] o10 o11 0 N (by decide) f i6 ho0 hb0 h0 n0 Z0 V V2) hZ (hw _ (List.mem_of_getElem? (i := 18) rfl)) (hw _ (List.mem_of_getElem? (i := 17) rfl)) (by decide) (by decide)) (g := (mkF m 174 #[s0, s1, s2, s3, s4, .val (.int (Int32.ofNat N)), .val (.int i6), .val (.int i7), .val (.int i8), .val (.int i9), .val (.ref o10), .val (.ref o11)] [(.int i6), (.int (Int32.ofNat N)), (.int (0 : Int32)), (.ref o11), (.ref o10)])) rfl (by rw [hml]; rfl) (argsL := [(.ref o10), (.ref o11), (.int (0 : Int32)), (.int (Int32.ofNat N)), (.int i6)]) (rest := []) (lenOf pd_0_2 rfl) rfl (by show 2 * 0 + _ ≤ _; exact Nat.le_of_eq rfl) (hb hby at_174) (fun _ _ => ⟨rfl, e0, (Nat.le_of_ble_eq_true rfl), (Nat.le_of_ble_eq_true rfl)⟩)
  dsimp only [Pt.U, Pt.locs, Pt.cells, Pt.slots] at X6 l6 y6 z6 st6 hQ6
  subst l6 y6 z6
  obtain ⟨rfl, N6q, q6⟩ := hQ6
  have Z6 : n0 ≤ T6.heap.size := by rw [q6]; exact Z0
  have VA6 : own_AF Z T6.heap o10 .byte N (fun j => .int (f j)) := by rw [q6]; exact V
  have VB6 : own_AF Z T6.heap o11 .byte N (fun j => .int (own_lw (f j))) := by rw [q6]; exact V2
  have N6 := Fr.app N0 N6q
  obtain ⟨_, _, ⟨T7, L7, k7, n7⟩, -, X7, ⟨Lc7, hQ7, l7, y7, z7⟩, st7⟩ := Jvm.LawKit.callS X6 hx (y := (⟨"com/example/skwash/skwash/command/GlobLowerCasePinLaw", "ok", "([B[BIIB)Z"⟩ : MethodName)) hown (mvT hZ (hw _ (List.mem_of_getElem? (i := 15) rfl))) (mvT hZ (hw _ (List.mem_of_getElem? (i := 16) rfl))) (mvT hZ (hw _ (List.mem_of_getElem? (i := 17) rfl))) (mvT hZ (hw _ (List.mem_of_getElem? (i := 18) rfl))) (by decide) (backOf (W := 0) (own_okw l Z a0 hw [] o10 o11 1 N (by decide) f i7 ho1 hb1 T6.heap n0 Z6 VA6 VB6) hZ (hw _ (List.mem_of_getElem? (i := 18) rfl)) (hw _ (List.mem_of_getElem? (i := 17) rfl)) (by decide) (by decide)) (g := (mkF m 189 #[s0, s1, s2, s3, s4, .val (.int (Int32.ofNat N)), .val (.int i6), .val (.int i7), .val (.int i8), .val (.int i9), .val (.ref o10), .val (.ref o11)] [(.int i7), (.int (Int32.ofNat N)), (.int (1 : Int32)), (.ref o11), (.ref o10)])) rfl (by rw [hml]; rfl) (argsL := [(.ref o10), (.ref o11), (.int (1 : Int32)), (.int (Int32.ofNat N)), (.int i7)]) (rest := []) (lenOf pd_0_2 rfl) rfl (by show 2 * 0 + _ ≤ _; exact Nat.le_of_eq rfl) (hb hby at_189) (fun _ _ => ⟨rfl, rfl, (Nat.le_of_ble_eq_true rfl), (Nat.le_of_ble_eq_true rfl)⟩)
  dsimp only [Pt.U, Pt.locs, Pt.cells, Pt.slots] at X7 l7 y7 z7 st7 hQ7
  subst l7 y7 z7
  obtain ⟨rfl, N7q, q7⟩ := hQ7
  have Z7 : n0 ≤ T7.heap.size := by rw [q7]; exact Z6
  have VA7 : own_AF Z T7.heap o10 .byte N (fun j => .int (f j)) := by rw [q7]; exact VA6
  have VB7 : own_AF Z T7.heap o11 .byte N (fun j => .int (own_lw (f j))) := by rw [q7]; exact VB6
  have N7 := Fr.app N6 N7q
  obtain ⟨_, _, ⟨T8, L8, k8, n8⟩, -, X8, ⟨Lc8, hQ8, l8, y8, z8⟩, st8⟩ := Jvm.LawKit.callS X7 hx (y := (⟨"com/example/skwash/skwash/command/GlobLowerCasePinLaw", "ok", "([B[BIIB)Z"⟩ : MethodName)) hown (mvT hZ (hw _ (List.mem_of_getElem? (i := 15) rfl))) (mvT hZ (hw _ (List.mem_of_getElem? (i := 16) rfl))) (mvT hZ (hw _ (List.mem_of_getElem? (i := 17) rfl))) (mvT hZ (hw _ (List.mem_of_getElem? (i := 18) rfl))) (by decide) (backOf (W := 0) (own_okw l Z a0 hw [] o10 o11 2 N (by decide) f i8 ho2 hb2 T7.heap n0 Z7 VA7 VB7) hZ (hw _ (List.mem_of_getElem? (i := 18) rfl)) (hw _ (List.mem_of_getElem? (i := 17) rfl)) (by decide) (by decide)) (g := (mkF m 204 #[s0, s1, s2, s3, s4, .val (.int (Int32.ofNat N)), .val (.int i6), .val (.int i7), .val (.int i8), .val (.int i9), .val (.ref o10), .val (.ref o11)] [(.int i8), (.int (Int32.ofNat N)), (.int (2 : Int32)), (.ref o11), (.ref o10)])) rfl (by rw [hml]; rfl) (argsL := [(.ref o10), (.ref o11), (.int (2 : Int32)), (.int (Int32.ofNat N)), (.int i8)]) (rest := []) (lenOf pd_0_2 rfl) rfl (by show 2 * 0 + _ ≤ _; exact Nat.le_of_eq rfl) (hb hby at_204) (fun _ _ => ⟨rfl, rfl, (Nat.le_of_ble_eq_true rfl), (Nat.le_of_ble_eq_true rfl)⟩)
  dsimp only [Pt.U, Pt.locs, Pt.cells, Pt.slots] at X8 l8 y8 z8 st8 hQ8
  subst l8 y8 z8
  obtain ⟨rfl, N8q, q8⟩ := hQ8
  have Z8 : n0 ≤ T8.heap.size := by rw [q8]; exact Z7
  have VA8 : own_AF Z T8.heap o10 .byte N (fun j => .int (f j)) := by rw [q8]; exact VA7
  have VB8 : own_AF Z T8.heap o11 .byte N (fun j => .int (own_lw (f j))) := by rw [q8]; exact VB7
  have N8 := Fr.app N7 N8q
  obtain ⟨_, _, ⟨T9, L9, k9, n9⟩, -, X9, ⟨Lc9, hQ9, l9, y9, z9⟩, st9⟩ := Jvm.LawKit.callS X8 hx (y := (⟨"com/example/skwash/skwash/command/GlobLowerCasePinLaw", "ok", "([B[BIIB)Z"⟩ : MethodName)) hown (mvT hZ (hw _ (List.mem_of_getElem? (i := 15) rfl))) (mvT hZ (hw _ (List.mem_of_getElem? (i := 16) rfl))) (mvT hZ (hw _ (List.mem_of_getElem? (i := 17) rfl))) (mvT hZ (hw _ (List.mem_of_getElem? (i := 18) rfl))) (by decide) (backOf (W := 0) (own_okw l Z a0 hw [] o10 o11 3 N (by decide) f i9 ho3 hb3 T8.heap n0 Z8 VA8 VB8) hZ (hw _ (List.mem_of_getElem? (i := 18) rfl)) (hw _ (List.mem_of_getElem? (i := 17) rfl)) (by decide) (by decide)) (g := (mkF m 219 #[s0, s1, s2, s3, s4, .val (.int (Int32.ofNat N)), .val (.int i6), .val (.int i7), .val (.int i8), .val (.int i9), .val (.ref o10), .val (.ref o11)] [(.int i9), (.int (Int32.ofNat N)), (.int (3 : Int32)), (.ref o11), (.ref o10)])) rfl (by rw [hml]; rfl) (argsL := [(.ref o10), (.ref o11), (.int (3 : Int32)), (.int (Int32.ofNat N)), (.int i9)]) (rest := []) (lenOf pd_0_2 rfl) rfl (by show 2 * 0 + _ ≤ _; exact Nat.le_of_eq rfl) (hb hby at_219) (fun _ _ => ⟨rfl, rfl, (Nat.le_of_ble_eq_true rfl), (Nat.le_of_ble_eq_true rfl)⟩)
  dsimp only [Pt.U, Pt.locs, Pt.cells, Pt.slots] at X9 l9 y9 z9 st9 hQ9
  subst l9 y9 z9
  obtain ⟨rfl, N9q, q9⟩ := hQ9
  have Z9 : n0 ≤ T9.heap.size := by rw [q9]; exact Z8
  have VA9 : own_AF Z T9.heap o10 .byte N (fun j => .int (f j)) := by rw [q9]; exact VA8
  have VB9 : own_AF Z T9.heap o11 .byte N (fun j => .int (own_lw (f j))) := by rw [q9]; exact VB8
  have N9 := Fr.app N8 N9q
  refine ⟨T9, _, _, X9, rfl, N9, Z9, trivial, fun target kt => ?_⟩
  show Steps p.tables e below (T0.setTop (mkF m 165 #[s0, s1, s2, s3, s4, .val (.int (Int32.ofNat N)), .val (.int i6), .val (.int i7), .val (.int i8), .val (.int i9), .val (.ref o10), .val (.ref o11)] [])) _
  refine XS.aload X0.here hx rfl (hb hby at_165) rfl rfl ?_
  show Steps p.tables e below (T0.setTop (mkF m 167 #[s0, s1, s2, s3, s4, .val (.int (Int32.ofNat N)), .val (.int i6), .val (.int i7), .val (.int i8), .val (.int i9), .val (.ref o10), .val (.ref o11)] [(.ref o10)])) _
  refine XS.aload X0.here hx rfl (hb hby at_167) rfl rfl ?_
  show Steps p.tables e below (T0.setTop (mkF m 169 #[s0, s1, s2, s3, s4, .val (.int (Int32.ofNat N)), .val (.int i6), .val (.int i7), .val (.int i8), .val (.int i9), .val (.ref o10), .val (.ref o11)] [(.ref o11), (.ref o10)])) _
  refine XS.iconst X0.here hx rfl (hb hby at_169) ?_
  show Steps p.tables e below (T0.setTop (mkF m 170 #[s0, s1, s2, s3, s4, .val (.int (Int32.ofNat N)), .val (.int i6), .val (.int i7), .val (.int i8), .val (.int i9), .val (.ref o10), .val (.ref o11)] [(.int (0 : Int32)), (.ref o11), (.ref o10)])) _
  refine XS.iload X0.here hx rfl (hb hby at_170) rfl ?_
  show Steps p.tables e below (T0.setTop (mkF m 172 #[s0, s1, s2, s3, s4, .val (.int (Int32.ofNat N)), .val (.int i6), .val (.int i7), .val (.int i8), .val (.int i9), .val (.ref o10), .val (.ref o11)] [(.int (Int32.ofNat N)), (.int (0 : Int32)), (.ref o11), (.ref o10)])) _
  refine XS.iload X0.here hx rfl (hb hby at_172) rfl ?_
  show Steps p.tables e below (T0.setTop (mkF m 174 #[s0, s1, s2, s3, s4, .val (.int (Int32.ofNat N)), .val (.int i6), .val (.int i7), .val (.int i8), .val (.int i9), .val (.ref o10), .val (.ref o11)] [(.int i6), (.int (Int32.ofNat N)), (.int (0 : Int32)), (.ref o11), (.ref o10)])) _
  refine st6 _ ?_
  show Steps p.tables e below (T6.setTop (mkF m 177 #[s0, s1, s2, s3, s4, .val (.int (Int32.ofNat N)), .val (.int i6), .val (.int i7), .val (.int i8), .val (.int i9), .val (.ref o10), .val (.ref o11)] [(.int (1 : Int32))])) _
  refine XS.ifNo X6.here hx rfl (hb hby at_177) rfl ((if0 _ _).trans (feq ((by decide) : ¬ ((1 : Int32) = (0 : Int32)))).1) ?_
  show Steps p.tables e below (T6.setTop (mkF m 180 #[s0, s1, s2, s3, s4, .val (.int (Int32.ofNat N)), .val (.int i6), .val (.int i7), .val (.int i8), .val (.int i9), .val (.ref o10), .val (.ref o11)] [])) _
  refine XS.aload X6.here hx rfl (hb hby at_180) rfl rfl ?_
  show Steps p.tables e below (T6.setTop (mkF m 182 #[s0, s1, s2, s3, s4, .val (.int (Int32.ofNat N)), .val (.int i6), .val (.int i7), .val (.int i8), .val (.int i9), .val (.ref o10), .val (.ref o11)] [(.ref o10)])) _
  refine XS.aload X6.here hx rfl (hb hby at_182) rfl rfl ?_
  show Steps p.tables e below (T6.setTop (mkF m 184 #[s0, s1, s2, s3, s4, .val (.int (Int32.ofNat N)), .val (.int i6), .val (.int i7), .val (.int i8), .val (.int i9), .val (.ref o10), .val (.ref o11)] [(.ref o11), (.ref o10)])) _
  refine XS.iconst X6.here hx rfl (hb hby at_184) ?_
  show Steps p.tables e below (T6.setTop (mkF m 185 #[s0, s1, s2, s3, s4, .val (.int (Int32.ofNat N)), .val (.int i6), .val (.int i7), .val (.int i8), .val (.int i9), .val (.ref o10), .val (.ref o11)] [(.int (1 : Int32)), (.ref o11), (.ref o10)])) _
  refine XS.iload X6.here hx rfl (hb hby at_185) rfl ?_
  show Steps p.tables e below (T6.setTop (mkF m 187 #[s0, s1, s2, s3, s4, .val (.int (Int32.ofNat N)), .val (.int i6), .val (.int i7), .val (.int i8), .val (.int i9), .val (.ref o10), .val (.ref o11)] [(.int (Int32.ofNat N)), (.int (1 : Int32)), (.ref o11), (.ref o10)])) _
  refine XS.iload X6.here hx rfl (hb hby at_187) rfl ?_
  show Steps p.tables e below (T6.setTop (mkF m 189 #[s0, s1, s2, s3, s4, .val (.int (Int32.ofNat N)), .val (.int i6), .val (.int i7), .val (.int i8), .val (.int i9), .val (.ref o10), .val (.ref o11)] [(.int i7), (.int (Int32.ofNat N)), (.int (1 : Int32)), (.ref o11), (.ref o10)])) _
  refine st7 _ ?_
  show Steps p.tables e below (T7.setTop (mkF m 192 #[s0, s1, s2, s3, s4, .val (.int (Int32.ofNat N)), .val (.int i6), .val (.int i7), .val (.int i8), .val (.int i9), .val (.ref o10), .val (.ref o11)] [(.int (1 : Int32))])) _
  refine XS.ifNo X7.here hx rfl (hb hby at_192) rfl ((if0 _ _).trans (feq ((by decide) : ¬ ((1 : Int32) = (0 : Int32)))).1) ?_
  show Steps p.tables e below (T7.setTop (mkF m 195 #[s0, s1, s2, s3, s4, .val (.int (Int32.ofNat N)), .val (.int i6), .val (.int i7), .val (.int i8), .val (.int i9), .val (.ref o10), .val (.ref o11)] [])) _
  refine XS.aload X7.here hx rfl (hb hby at_195) rfl rfl ?_
  show Steps p.tables e below (T7.setTop (mkF m 197 #[s0, s1, s2, s3, s4, .val (.int (Int32.ofNat N)), .val (.int i6), .val (.int i7), .val (.int i8), .val (.int i9), .val (.ref o10), .val (.ref o11)] [(.ref o10)])) _
  refine XS.aload X7.here hx rfl (hb hby at_197) rfl rfl ?_
  show Steps p.tables e below (T7.setTop (mkF m 199 #[s0, s1, s2, s3, s4, .val (.int (Int32.ofNat N)), .val (.int i6), .val (.int i7), .val (.int i8), .val (.int i9), .val (.ref o10), .val (.ref o11)] [(.ref o11), (.ref o10)])) _
  refine XS.iconst X7.here hx rfl (hb hby at_199) ?_
  show Steps p.tables e below (T7.setTop (mkF m 200 #[s0, s1, s2, s3, s4, .val (.int (Int32.ofNat N)), .val (.int i6), .val (.int i7), .val (.int i8), .val (.int i9), .val (.ref o10), .val (.ref o11)] [(.int (2 : Int32)), (.ref o11), (.ref o10)])) _
  refine XS.iload X7.here hx rfl (hb hby at_200) rfl ?_
  show Steps p.tables e below (T7.setTop (mkF m 202 #[s0, s1, s2, s3, s4, .val (.int (Int32.ofNat N)), .val (.int i6), .val (.int i7), .val (.int i8), .val (.int i9), .val (.ref o10), .val (.ref o11)] [(.int (Int32.ofNat N)), (.int (2 : Int32)), (.ref o11), (.ref o10)])) _
  refine XS.iload X7.here hx rfl (hb hby at_202) rfl ?_
  show Steps p.tables e below (T7.setTop (mkF m 204 #[s0, s1, s2, s3, s4, .val (.int (Int32.ofNat N)), .val (.int i6), .val (.int i7), .val (.int i8), .val (.int i9), .val (.ref o10), .val (.ref o11)] [(.int i8), (.int (Int32.ofNat N)), (.int (2 : Int32)), (.ref o11), (.ref o10)])) _
  refine st8 _ ?_
  show Steps p.tables e below (T8.setTop (mkF m 207 #[s0, s1, s2, s3, s4, .val (.int (Int32.ofNat N)), .val (.int i6), .val (.int i7), .val (.int i8), .val (.int i9), .val (.ref o10), .val (.ref o11)] [(.int (1 : Int32))])) _
  refine XS.ifNo X8.here hx rfl (hb hby at_207) rfl ((if0 _ _).trans (feq ((by decide) : ¬ ((1 : Int32) = (0 : Int32)))).1) ?_
  show Steps p.tables e below (T8.setTop (mkF m 210 #[s0, s1, s2, s3, s4, .val (.int (Int32.ofNat N)), .val (.int i6), .val (.int i7), .val (.int i8), .val (.int i9), .val (.ref o10), .val (.ref o11)] [])) _
  refine XS.aload X8.here hx rfl (hb hby at_210) rfl rfl ?_
  show Steps p.tables e below (T8.setTop (mkF m 212 #[s0, s1, s2, s3, s4, .val (.int (Int32.ofNat N)), .val (.int i6), .val (.int i7), .val (.int i8), .val (.int i9), .val (.ref o10), .val (.ref o11)] [(.ref o10)])) _
  refine XS.aload X8.here hx rfl (hb hby at_212) rfl rfl ?_
  show Steps p.tables e below (T8.setTop (mkF m 214 #[s0, s1, s2, s3, s4, .val (.int (Int32.ofNat N)), .val (.int i6), .val (.int i7), .val (.int i8), .val (.int i9), .val (.ref o10), .val (.ref o11)] [(.ref o11), (.ref o10)])) _
  refine XS.iconst X8.here hx rfl (hb hby at_214) ?_
  show Steps p.tables e below (T8.setTop (mkF m 215 #[s0, s1, s2, s3, s4, .val (.int (Int32.ofNat N)), .val (.int i6), .val (.int i7), .val (.int i8), .val (.int i9), .val (.ref o10), .val (.ref o11)] [(.int (3 : Int32)), (.ref o11), (.ref o10)])) _
  refine XS.iload X8.here hx rfl (hb hby at_215) rfl ?_
  show Steps p.tables e below (T8.setTop (mkF m 217 #[s0, s1, s2, s3, s4, .val (.int (Int32.ofNat N)), .val (.int i6), .val (.int i7), .val (.int i8), .val (.int i9), .val (.ref o10), .val (.ref o11)] [(.int (Int32.ofNat N)), (.int (3 : Int32)), (.ref o11), (.ref o10)])) _
  refine XS.iload X8.here hx rfl (hb hby at_217) rfl ?_
  show Steps p.tables e below (T8.setTop (mkF m 219 #[s0, s1, s2, s3, s4, .val (.int (Int32.ofNat N)), .val (.int i6), .val (.int i7), .val (.int i8), .val (.int i9), .val (.ref o10), .val (.ref o11)] [(.int i9), (.int (Int32.ofNat N)), (.int (3 : Int32)), (.ref o11), (.ref o10)])) _
  refine st9 _ ?_
  show Steps p.tables e below (T9.setTop (mkF m 222 #[s0, s1, s2, s3, s4, .val (.int (Int32.ofNat N)), .val (.int i6), .val (.int i7), .val (.int i8), .val (.int i9), .val (.ref o10), .val (.ref o11)] [(.int (1 : Int32))])) _
  refine XS.ifNo X9.here hx rfl (hb hby at_222) rfl ((if0 _ _).trans (feq ((by decide) : ¬ ((1 : Int32) = (0 : Int32)))).1) ?_
  show Steps p.tables e below (T9.setTop (mkF m 225 #[s0, s1, s2, s3, s4, .val (.int (Int32.ofNat N)), .val (.int i6), .val (.int i7), .val (.int i8), .val (.int i9), .val (.ref o10), .val (.ref o11)] [])) _
  refine XS.iconst X9.here hx rfl (hb hby at_225) ?_
  show Steps p.tables e below (T9.setTop (mkF m 226 #[s0, s1, s2, s3, s4, .val (.int (Int32.ofNat N)), .val (.int i6), .val (.int i7), .val (.int i8), .val (.int i9), .val (.ref o10), .val (.ref o11)] [(.int (1 : Int32))])) _
  refine XS.goto X9.here hx rfl (pc0 := 226) (pc' := 230) rfl (hb hby at_226) (by decide) (by decide) ?_
  exact kt
theorem pn_0 : plainName "com/example/skwash/skwash/command/GlobLowerCasePinLaw" = true := by first | (simp [plainName, overriddenIn]; done) | decide +kernel
theorem ef_0 (m : MethodId) (x0 : Int32) (x1 : Int32) (x2 : Int32) (x3 : Int32) (x4 : Int32) : entryFrame m #[(.int x0), (.int x1), (.int x2), (.int x3), (.int x4)] maxLocals = mkF m 0 #[.val (.int x0), .val (.int x1), .val (.int x2), .val (.int x3), .val (.int x4), .unset, .unset, .unset, .unset, .unset, .unset, .unset] [] := by first | (simp [entryFrame, mkF, argsToLocals, Value.category, maxLocals]; done) | rfl

set_option maxRecDepth 65536 in
set_option maxHeartbeats 40000000 in
theorem rm0 (l : Launch) (Z : State) (a0 : Array Value) (hw : ∀ d ∈ tables_1, d.before a0 Z = true) (ws : List Jvm.Cond) (p1 p2 p3 p4 p5 : Int32) (h0 : Heap) (n0 : Nat) (Z0 : n0 ≤ h0.size) :
    MetFree l x (head1 (Jvm.Cond.code x code maxLocals ret :: ws) room_1) (fun a U => a = #[(.int p1), (.int p2), (.int p3), (.int p4), (.int p5)] ∧ Z.Warmed39 U.vm ∧ U.heap = h0) (fun _ _ _ _ _ => True) (fun _ U o U' => ∃ v L, o = .returned v ∧ (v = some (.int 1) ∧ Fr n0 L) ∧ FrameEnd U o U' L room_1.cells room_1.slots) := by
  refine MetFree.of_bodySF (plainFor_of_name pn_0) hisR ?_
  intro p e s m args below meth c s₁ Bd hml0 hP hK
  obtain ⟨rfl, hZ, hh⟩ := hP
  have hx := Bd.exec
  have hby := Bd.bytes
  have hml : c.maxLocals = 12 := hml0
  have hown : s.vm.findClass "com/example/skwash/skwash/command/GlobLowerCasePinLaw" = some m.cls := findClass_of_methodNamed Bd.named
  have hnm := (name_of_methodNamed Bd.named Bd.method).1
  have X0 : Stand p l e room_1 s m #[(.int p1), (.int p2), (.int p3), (.int p4), (.int p5)] below meth c s₁ [] 0 0 := Stand.of_body Bd
  have e0 : s₁.heap = h0 := by rw [← hh, Bd.state]; rfl
  have N0 := Fr.nil n0
  have pre0 : ∀ t, Steps p.tables e below (s₁.setTop (mkF m 0 #[.val (.int p1), .val (.int p2), .val (.int p3), .val (.int p4), .val (.int p5), .unset, .unset, .unset, .unset, .unset, .unset, .unset] [])) t → Steps p.tables e below (s₁.setTop (entryFrame m #[(.int p1), (.int p2), (.int p3), (.int p4), (.int p5)] maxLocals)) t := fun t k => castTop (ef_0 m p1 p2 p3 p4 p5) k
  obtain ⟨N, hN5, eN⟩ := own_len5 p1
  obtain ⟨T1, X1, e1, st1⟩ := tn0_0_25 p1 p2 p3 p4 p5 X0 hx hZ hw hby hml hown e0 One.u One.u One.u One.u One.u (by decide)
  rw [eN] at st1
  obtain ⟨b, f, T2, h2, l2, X2, e2, N2, Z2, V2, Ex2, gb2, hf, ho, st2⟩ : ∃ (b : Addr) (f : Nat → Int32) (T' : State) (h' : Heap) (locs' : List Loc), Stand p l e room_1 s m #[(.int p1), (.int p2), (.int p3), (.int p4), (.int p5)] below meth c T' locs' 1 4 ∧ T'.heap = h' ∧ Fr n0 locs' ∧ n0 ≤ h'.size ∧ own_AF Z h' b .byte N (fun j => .int (f j)) ∧ Exa Z h' b "[B" ∧ n0 ≤ b ∧ (∀ j, own_b (f j) = f j) ∧ (∀ j, j < N → f j = own_x (own_b p2) (own_b p3) (own_b p4) (own_b p5) j) ∧ ∀ target, Steps p.tables e below (T'.setTop (mkF m 135 #[.val (.int p1), .val (.int p2), .val (.int p3), .val (.int p4), .val (.int p5), .val (.int (Int32.ofNat N)), .val (.int (own_b p2)), .val (.int (own_b p3)), .val (.int (own_b p4)), .val (.int (own_b p5)), .val (.ref b), .unset] [])) target → Steps p.tables e below (T1.setTop (mkF m 25 #[.val (.int p1), .val (.int p2), .val (.int p3), .val (.int p4), .val (.int p5), .val (.int (Int32.ofNat N)), .val (.int (own_b p2)), .val (.int (own_b p3)), .val (.int (own_b p4)), .val (.int (own_b p5)), .unset, .unset] [])) target := by
    have hxb : ∀ (a b c d : Int32), own_b a = a → own_b b = b → own_b c = c → own_b d = d → ∀ j, own_b (own_x a b c d j) = own_x a b c d j := fun a b c d ha hb' hc hd j => by
      unfold own_x; split
      · exact ha
      · split
        · exact hb'
        · split
          · exact hc
          · exact hd
    have z0 : own_b 0 = 0 := by decide
    match N, hN5 with
    | 0, _ =>
      obtain ⟨b, T2, h2, l2, X2, e2, N2, Z2, ⟨V2, Ex2, gb2⟩, st2⟩ := own_mk0 (.val (.int p1)) (.val (.int p2)) (.val (.int p3)) (.val (.int p4)) (.val (.int p5)) (Int32.ofNat 0) (.val (.int (own_b p2))) (.val (.int (own_b p3))) (.val (.int (own_b p4))) (.val (.int (own_b p5))) .unset X1 hx hZ hw hby hml hown e1 N0 Z0 One.u (by decide)
      exact ⟨b, _, T2, h2, l2, X2, e2, N2, Z2, V2, Ex2, gb2, hxb _ _ _ _ z0 z0 z0 z0, fun j hj => by match j, hj with | _, hj => exact absurd hj (Nat.not_lt_zero _), st2⟩
    | 1, _ =>
      obtain ⟨b, T2, h2, l2, X2, e2, N2, Z2, ⟨V2, Ex2, gb2⟩, st2⟩ := own_mk1 (.val (.int p1)) (.val (.int p2)) (.val (.int p3)) (.val (.int p4)) (.val (.int p5)) (Int32.ofNat 1) (own_b p2) (.val (.int (own_b p3))) (.val (.int (own_b p4))) (.val (.int (own_b p5))) .unset X1 hx hZ hw hby hml hown e1 N0 Z0 One.u (by decide) (by decide) (own_bb _)
      exact ⟨b, _, T2, h2, l2, X2, e2, N2, Z2, V2, Ex2, gb2, hxb _ _ _ _ (own_bb _) z0 z0 z0, fun j hj => by match j, hj with | 0, _ => rfl, st2⟩
    | 2, _ =>
      obtain ⟨b, T2, h2, l2, X2, e2, N2, Z2, ⟨V2, Ex2, gb2⟩, st2⟩ := own_mk2 (.val (.int p1)) (.val (.int p2)) (.val (.int p3)) (.val (.int p4)) (.val (.int p5)) (Int32.ofNat 2) (own_b p2) (own_b p3) (.val (.int (own_b p4))) (.val (.int (own_b p5))) .unset X1 hx hZ hw hby hml hown e1 N0 Z0 One.u (by decide) (by decide) (by decide) (own_bb _) (own_bb _)
      exact ⟨b, _, T2, h2, l2, X2, e2, N2, Z2, V2, Ex2, gb2, hxb _ _ _ _ (own_bb _) (own_bb _) z0 z0, fun j hj => by match j, hj with | 0, _ => rfl | 1, _ => rfl, st2⟩
    | 3, _ =>
      obtain ⟨b, T2, h2, l2, X2, e2, N2, Z2, ⟨V2, Ex2, gb2⟩, st2⟩ := own_mk3 (.val (.int p1)) (.val (.int p2)) (.val (.int p3)) (.val (.int p4)) (.val (.int p5)) (Int32.ofNat 3) (own_b p2) (own_b p3) (own_b p4) (.val (.int (own_b p5))) .unset X1 hx hZ hw hby hml hown e1 N0 Z0 One.u (by decide) (by decide) (by decide) (by decide) (own_bb _) (own_bb _) (own_bb _)
      exact ⟨b, _, T2, h2, l2, X2, e2, N2, Z2, V2, Ex2, gb2, hxb _ _ _ _ (own_bb _) (own_bb _) (own_bb _) z0, fun j hj => by match j, hj with | 0, _ => rfl | 1, _ => rfl | 2, _ => rfl, st2⟩
    | 4, _ =>
      obtain ⟨b, T2, h2, l2, X2, e2, N2, Z2, ⟨V2, Ex2, gb2⟩, st2⟩ := own_mk4 (.val (.int p1)) (.val (.int p2)) (.val (.int p3)) (.val (.int p4)) (.val (.int p5)) (Int32.ofNat 4) (own_b p2) (own_b p3) (own_b p4) (own_b p5) .unset X1 hx hZ hw hby hml hown e1 N0 Z0 One.u (by decide) (by decide) (by decide) (by decide) (own_bb _) (own_bb _) (own_bb _) (own_bb _)
      exact ⟨b, _, T2, h2, l2, X2, e2, N2, Z2, V2, Ex2, gb2, hxb _ _ _ _ (own_bb _) (own_bb _) (own_bb _) (own_bb _), fun j hj => by match j, hj with | 0, _ => rfl | 1, _ => rfl | 2, _ => rfl | 3, _ => rfl, st2⟩
  obtain ⟨br, T3, h3, l3, X3, e3, N3, Z3, ⟨V3, K3⟩, st3⟩ := tn0_135_142 (.val (.int p1)) (.val (.int p2)) (.val (.int p3)) (.val (.int p4)) (.val (.int p5)) (.val (.int (Int32.ofNat N))) (.val (.int (own_b p2))) (.val (.int (own_b p3))) (.val (.int (own_b p4))) (.val (.int (own_b p5))) b N (by omega) f hf X2 hx hZ hw hby hml hown e2 N2 Z2 One.u V2 Ex2
  have V2' := V2.keep K3 nin0
  obtain ⟨hNl, c1, Ar1, S1, -, -⟩ := id V2'
  obtain ⟨-, c2, Ar2, S2, -, -⟩ := id V3
  obtain ⟨T4, X4, e4, st4⟩ := tn0_142_165 (.val (.int p1)) (.val (.int p2)) (.val (.int p3)) (.val (.int p4)) (.val (.int p5)) (Int32.ofNat N) (.val (.int (own_b p2))) (.val (.int (own_b p3))) (.val (.int (own_b p4))) (.val (.int (own_b p5))) b br c2 (Int32.ofNat N) c1 (Int32.ofNat N) X3 hx hZ hw hby hml hown e3 Ar2 (by rw [own_nc hNl]; exact S2) (own_nneg hNl) Ar1 (by rw [own_nc hNl]; exact S1) (own_nneg hNl) rfl rfl
  obtain ⟨T5, h5, l5, X5, e5, N5, Z5, -, st5⟩ := tn0_165_230 (.val (.int p1)) (.val (.int p2)) (.val (.int p3)) (.val (.int p4)) (.val (.int p5)) N (own_b p2) (own_b p3) (own_b p4) (own_b p5) b br f X4 hx hZ hw hby hml hown e4 N3 Z3 V2' V3 (ho 0) (own_bb _) (ho 1) (own_bb _) (ho 2) (own_bb _) (ho 3) (own_bb _)
  obtain ⟨fs, hr, hrun, hended, hW, hsame⟩ := X5.leave (v := some (.int (1 : Int32))) (fun h => by rw [Bd.returns] at h; cases h)
  refine ⟨_, _, pre0 _ ?_, hrun, hended, _, _, rfl, ⟨rfl, N5⟩, ⟨_, rfl⟩, hW, hsame.mono (by decide) (by decide)⟩
  exact st1 _ (st2 _ (st3 _ (st4 _ (st5 _ (retN X5 hx (t := .boolean) Bd.returns (by simp) (hb hby at_230) hr)))))
set_option maxRecDepth 65536 in
set_option maxHeartbeats 40000000 in
theorem comes_1 {Post : Tables → Env → Array Value → State → Outcome → State → Prop} (hpost : ∀ tb e args s v u, (limb_1_1.after args s (.returned v) u = true ∧ limb_1_2.after args s (.returned v) u = true ∧ True) → FrameEnd s (.returned v) u (Jvm.fieldLocs frame_1_writes args s ++ Jvm.arrayLocs frame_1_arrays args s ++ Jvm.staticLocs frame_1_statics s) 16 128 → Post tb e args s (.returned v) u) :
    ArmFor flags0 classFile x code maxLocals ret World_1 tables_1 room_1 Calls_1 rest_1 Pre_1 Post := by
  intro l hfl _ _ p e ha hc hk s m args below hf hA hF happ hP
  obtain ⟨hcalls, hrest, hpre⟩ := hP
  obtain ⟨-, -, -, hnamed, -, -, -, hat⟩ := (Spec.applies_iff hf).mp happ
  obtain ⟨hg, hn⟩ := and_e (Cond.before_iff.mp (show (Jvm.Cond.and given_1 narrow_1).before args s = true from hpre))
  obtain ⟨g12, g13⟩ := and_e hg
  obtain ⟨g14, g15⟩ := and_e g13
  obtain ⟨g16, g17⟩ := and_e g15
  obtain ⟨g18, g19⟩ := and_e g17
  obtain ⟨g20, g21⟩ := and_e g19
  obtain ⟨w0, w1, w2, w3, w4, rfl⟩ : ∃ w0 w1 w2 w3 w4 : Value, args = #[w0, w1, w2, w3, w4] := by
    have hs : args.size = 5 := by simpa [Cond.value, given_1] using g12
    obtain ⟨L⟩ := args
    match L, hs with
    | [w0, w1, w2, w3, w4], _ => exact ⟨w0, w1, w2, w3, w4, rfl⟩
  have hw := fun d (hd : d ∈ tables_1) => atoms_spec (ws := Jvm.Cond.code x code maxLocals ret :: tables_1) hat d (List.mem_cons_of_mem _ hd)
  have hfit : Fit s := fun {y c} hc i hi => by
    obtain ⟨ha, rfl⟩ := Array.getElem?_eq_some_iff.mp hc
    have q := List.all_eq_true.mp ((Array.all_eq_true_iff_forall_mem.mp hF) _ (Array.getElem_mem ha)) i (List.mem_range.mpr hi)
    simpa [Array.getElem?_eq_getElem hi] using q
  obtain ⟨i0, ei0⟩ := is_v g14
  obtain rfl : w0 = (.int i0) := Option.some.inj ei0
  obtain ⟨i1, ei1⟩ := is_v g16
  obtain rfl : w1 = (.int i1) := Option.some.inj ei1
  obtain ⟨i2, ei2⟩ := is_v g18
  obtain rfl : w2 = (.int i2) := Option.some.inj ei2
  obtain ⟨i3, ei3⟩ := is_v g20
  obtain rfl : w3 = (.int i3) := Option.some.inj ei3
  obtain ⟨i4, ei4⟩ := is_v g21
  obtain rfl : w4 = (.int i4) := Option.some.inj ei4
  have all : MetFree l x (head1 (Jvm.Cond.code x code maxLocals ret :: tables_1) room_1) (fun a U => a = #[(.int i0), (.int i1), (.int i2), (.int i3), (.int i4)] ∧ s.Warmed39 U.vm ∧ U.heap = s.heap) (fun _ _ _ _ _ => True) (fun _ U o U' => ∃ v L, o = .returned v ∧ (v = some (.int 1) ∧ Fr s.heap.size L) ∧ FrameEnd U o U' L room_1.cells room_1.slots) := by
    exact rm0 l s _ hw tables_1 i0 i1 i2 i3 i4 s.heap s.heap.size (Nat.le_refl _)
  obtain ⟨n, o, h1, h2, h3, _, L, rfl, ⟨rfl, N⟩, hq⟩ := all p e ha hc hk s m _ below hf ((Spec.applies_iff_loose hf).mp happ).1 ⟨rfl, State.Warmed39.refl s, rfl⟩ trivial
  refine ⟨n, _, h1, h2, h3, hpost _ _ _ _ _ _ ⟨Cond.after_iff.mpr rfl, Cond.after_iff.mpr (eq_i res_at (Term.int_eval (1)) rfl), trivial⟩ ⟨hq.1, hq.2.1, (hq.2.2.sift fun y hy => Or.inr (N y hy)).mono (by decide) (by decide)⟩⟩
theorem main_1_1 : Claimed_1_1 := comes_1 fun _ _ _ _ _ _ h hF => ⟨h.1, hF⟩
theorem main_1_2 : Claimed_1_2 := comes_1 fun _ _ _ _ _ _ h hF => ⟨h.2.1, hF⟩
end Jvm.Pilot.@@N@@
namespace Jvm.Pilot.@@N@@
open Jvm Jvm.ClassFile Sem Op Lib Jvm.Free Jvm.Stand Jvm.Pilot.@@N@@.Jvm.D
/-! MADE BY PROGRAM (witnessworld.py) out of the Statement's table words and the real class files: 9 classes; the members and pool entries that the words name. The judged class is class 1, her method 3. -/
namespace start1
open Jvm.ClassFile
def u (s : String) : CpInfo := .utf8 (stringToUtf16 s)
/-- a pool by its gaps: so many unusable entries, then the entry; so many at the end -/
def gap : Nat → List CpInfo → List CpInfo
  | 0, r => r
  | n + 1, r => .unusable :: gap n r
def poolList (es : List (Nat × CpInfo)) (last : Nat) : List CpInfo := es.foldr (fun e r => gap e.1 (e.2 :: r)) (gap last [])
def pool (es : List (Nat × CpInfo)) (last : Nat) : Array CpInfo := ⟨poolList es last⟩
def fileOf (pool : Array CpInfo) (this : Nat) (attrs : Array Attribute := #[]) (ms : Array MethodInfo := #[]) (fl : Nat := 33) (sup : Nat := 0) (ifs : Array Nat := #[]) (fds : Array FieldInfo := #[]) : ClassFile where
  minorVersion := 0
  majorVersion := 65
  constantPool := pool
  accessFlags := fl
  thisClass := this
  superClass := sup
  interfaces := ifs
  fields := fds
  methods := ms
  attributes := attrs
def plain (name : String) (sup : Option ClassId) : Class where
  name := name
  kind := .ordinary
  loader := none
  accessFlags := 33
  super := sup
  interfaces := #[]
  cf := none
  fields := #[]
  methods := #[]
  instanceTypes := #[]
  staticTypes := #[]
  resolved := #[]
  callSites := []
  init := .initialized
  statics := none
  mirror := none

def pool0 : Array CpInfo := pool [(5, u "<init>"), (0, u "()V"), (1, .class_ 10), (1, u "java/lang/Object"), (85, u "clone"), (0, u "()Ljava/lang/Object;")] 26

def k0m0 : Method := { name := "<init>", desc := "()V", sig := { parameters := [], returnType := none }, accessFlags := 1, code := none }
def k0m1 : Method := { name := "clone", desc := "()Ljava/lang/Object;", sig := { parameters := [], returnType := some (.object "java/lang/Object") }, accessFlags := 260, code := none }
/-- java/lang/Object -/
def k0 : Class := { plain "java/lang/Object" none with
  accessFlags := 33
  interfaces := #[]
  cf := some (fileOf pool0 8 #[] #[{ accessFlags := 1, nameIndex := 5, descriptorIndex := 6, attributes := #[] }, { accessFlags := 260, nameIndex := 96, descriptorIndex := 97, attributes := #[] }] 33 0 #[] #[])
  fields := #[]
  methods := #[k0m0, k0m1]
  instanceTypes := #[]
  staticTypes := #[]
  resolved := Array.replicate 124 none
  statics := none }

def pool1 : Array CpInfo := pool [(2, .class_ 4), (1, u "java/lang/Object"), (0, u "<init>"), (0, u "()V"), (0, .methodref 8 9), (0, .class_ 10), (0, .nameAndType 11 12), (0, u "com/example/skwash/skwash/command/GlobLowerCasePinLaw"), (0, u "lower"), (0, u "(B)B"), (0, .integer 2147483647), (0, .methodref 15 16), (0, .class_ 17), (0, .nameAndType 18 19), (0, u "com/example/skwash/skwash/command/Glob"), (0, u "lowerCase"), (0, u "([B)[B"), (0, .methodref 8 21), (0, .nameAndType 22 23), (0, u "ok"), (0, u "([B[BIIB)Z"), (3, u "law"), (0, u "(IIIII)Z")] 4

def k1m0 : Method := { name := "<init>", desc := "()V", sig := { parameters := [], returnType := none }, accessFlags := 1, code := none }
def k1c1 : Code := { maxStack := 2, maxLocals := 1, code := method_2_code, exceptionTable := #[], attributes := #[] }
def k1m1 : Method := { name := "lower", desc := "(B)B", sig := { parameters := [.byte], returnType := some .byte }, accessFlags := 10, code := some k1c1 }
def k1c2 : Code := { maxStack := 2, maxLocals := 5, code := method_3_code, exceptionTable := #[], attributes := #[] }
def k1m2 : Method := { name := "ok", desc := "([B[BIIB)Z", sig := { parameters := [(.array .byte), (.array .byte), .int, .int, .byte], returnType := some .boolean }, accessFlags := 10, code := some k1c2 }
def k1c3 : Code := { maxStack := 5, maxLocals := 12, code := code, exceptionTable := #[], attributes := #[] }
def k1m3 : Method := { name := "law", desc := "(IIIII)Z", sig := { parameters := [.int, .int, .int, .int, .int], returnType := some .boolean }, accessFlags := 9, code := some k1c3 }
/-- com/example/skwash/skwash/command/GlobLowerCasePinLaw -/
def k1 : Class := { plain "com/example/skwash/skwash/command/GlobLowerCasePinLaw" (some 0) with
  accessFlags := 49
  interfaces := #[]
  cf := some (fileOf pool1 8 #[] #[{ accessFlags := 1, nameIndex := 5, descriptorIndex := 6, attributes := #[] }, { accessFlags := 10, nameIndex := 11, descriptorIndex := 12, attributes := #[] }, { accessFlags := 10, nameIndex := 22, descriptorIndex := 23, attributes := #[] }, { accessFlags := 9, nameIndex := 27, descriptorIndex := 28, attributes := #[] }] 49 2 #[] #[])
  fields := #[]
  methods := #[k1m0, k1m1, k1m2, k1m3]
  instanceTypes := #[]
  staticTypes := #[]
  resolved := Array.replicate 33 none
  statics := none }

def pool2 : Array CpInfo := pool [(2, .class_ 4), (1, u "java/lang/Object"), (0, u "<init>"), (0, u "()V"), (0, .methodref 8 9), (0, .class_ 10), (0, .nameAndType 11 12), (0, u "[B"), (0, u "clone"), (0, u "()Ljava/lang/Object;"), (0, .class_ 14), (0, u "com/example/skwash/skwash/command/Glob"), (19, u "NO_MATCH"), (0, u "I"), (4, u "lowerCase"), (0, u "([B)[B")] 5

def k2m0 : Method := { name := "<init>", desc := "()V", sig := { parameters := [], returnType := none }, accessFlags := 2, code := none }
def k2c1 : Code := { maxStack := 4, maxLocals := 3, code := prog_5_method_2_code, exceptionTable := #[], attributes := #[] }
def k2m1 : Method := { name := "lowerCase", desc := "([B)[B", sig := { parameters := [(.array .byte)], returnType := some (.array .byte) }, accessFlags := 8, code := some k2c1 }
/-- com/example/skwash/skwash/command/Glob -/
def k2 : Class := { plain "com/example/skwash/skwash/command/Glob" (some 0) with
  accessFlags := 48
  interfaces := #[]
  cf := some (fileOf pool2 13 #[] #[{ accessFlags := 2, nameIndex := 5, descriptorIndex := 6, attributes := #[] }, { accessFlags := 8, nameIndex := 40, descriptorIndex := 41, attributes := #[] }] 48 2 #[] #[{ accessFlags := 26, nameIndex := 34, descriptorIndex := 35, attributes := #[] }])
  fields := #[{ name := "NO_MATCH", type := .int, accessFlags := 26, slot := 0, constantValue := 0 }]
  methods := #[k2m0, k2m1]
  instanceTypes := #[]
  staticTypes := #[.int]
  resolved := Array.replicate 47 none
  statics := none }

def pool3 : Array CpInfo := pool [(1, .class_ 2), (0, u "java/lang/Cloneable"), (0, .class_ 4), (0, u "java/lang/Object")] 2

/-- java/lang/Cloneable -/
def k3 : Class := { plain "java/lang/Cloneable" (some 0) with
  accessFlags := 1537
  interfaces := #[]
  cf := some (fileOf pool3 1 #[] #[] 1537 3 #[] #[])
  fields := #[]
  methods := #[]
  instanceTypes := #[]
  staticTypes := #[]
  resolved := Array.replicate 7 none
  statics := none }

def pool4 : Array CpInfo := pool [(1, u "java/io/Serializable"), (0, .class_ 1), (0, u "java/lang/Object"), (0, .class_ 3)] 3

/-- java/io/Serializable -/
def k4 : Class := { plain "java/io/Serializable" (some 0) with
  accessFlags := 1537
  interfaces := #[]
  cf := some (fileOf pool4 2 #[] #[] 1537 4 #[] #[])
  fields := #[]
  methods := #[]
  instanceTypes := #[]
  staticTypes := #[]
  resolved := Array.replicate 8 none
  statics := none }

/-- the primitive byte -/
def k5 : Class := { plain "byte" none with kind := .primitive 'B', accessFlags := 0x411 }
/-- [B -/
def k6 : Class := { plain "[B" (some 0) with kind := .array 5 .byte, interfaces := #[3, 4], accessFlags := 1041 }

/-- the primitive int -/
def k7 : Class := { plain "int" none with kind := .primitive 'I', accessFlags := 0x411 }
/-- [I -/
def k8 : Class := { plain "[I" (some 0) with kind := .array 7 .int, interfaces := #[3, 4], accessFlags := 1041 }

def heap : Heap := #[]
def classes : Array Class := #[k0, k1, k2, k3, k4, k5, k6, k7, k8]
def interned : List (Array UInt16 × Addr) := []
def slotsUsed : Nat := 0
def theMethod : MethodId := ⟨1, 3⟩
def args0 : Array Value := #[.int 3, .int 65, .int 66, .int 3, .int 4]
def aboutOver (below : List Frame) : State where
  vm := { classes := classes, interned := interned.toArray }
  heap := heap
  slotsUsed := slotsUsed
  threads := #[{ frames := .invoking theMethod args0 :: below }]
def below0 : List Frame := [.native { method := ⟨0, 0⟩, args := #[] }]
def about1 : State := aboutOver below0
def p0 : Program := .bare "" "" ""
def e0 : Env := launch0.env 0 0 0
theorem w_frames : about1.frames = Frame.invoking theMethod args0 :: below0 := rfl
set_option maxRecDepth 65536 in
theorem w_args : argsFit about1.vm theMethod args0 = true := by decide +kernel
set_option maxRecDepth 65536 in
theorem w_heap : heapFits about1 = true := by decide +kernel
set_option maxRecDepth 65536 in
theorem w_runnable : about1.curStatus? = some .runnable := by decide +kernel
set_option maxRecDepth 65536 in
theorem w_alone : about1.alone = true := by decide +kernel
set_option maxRecDepth 65536 in
theorem w_named : about1.methodNamed? x = some theMethod := by decide +kernel
set_option maxRecDepth 65536 in
theorem w_hears : about1.hears theMethod below0 = true := by decide +kernel
set_option maxRecDepth 65536 in
theorem w_ripe : about1.ripe theMethod args0 below0 = true := by decide +kernel
theorem w_running : about1.status = .running := rfl
set_option maxRecDepth 65536 in
theorem w_room : about1.hasRoom e0.platform room_1 = true :=
  launch0.hasRoom_least _ room_1 (by decide +kernel) (by decide +kernel) (by decide +kernel) (by decide +kernel) (by decide +kernel) (by decide +kernel)
theorem allAtoms_all (ts : List Jvm.Cond) (a : Array Jvm.Value) (st : Jvm.State) : (allAtoms ts).before a st = ts.all (fun c => c.before a st) := by
  induction ts with
  | nil => rfl
  | cons c t ih =>
    show (Jvm.Cond.and c (allAtoms t)).before a st = _
    rw [Jvm.Cond.before_and, ih, List.all_cons]
def words1 : List Jvm.Cond := Jvm.Cond.code x code maxLocals ret :: tables_1
/-- a 'code' word, met by the world's own term for the bytes: nothing is compared byte by byte -/
theorem code_word {y : MethodName} {bytes : ByteArray} {mx : Nat} {rt : Option FieldType} {a : Array Value} {s : State} {m : MethodId} {meth : Method} {c : Code} (h1 : s.methodNamed? y = some m) (h2 : s.vm.method? m = some meth) (h3 : meth.code = some c) (h4 : c.code = bytes)
    (h5 : (c.maxLocals == mx && c.exceptionTable.isEmpty && decide (c.maxStack ≤ mostOperands) && decide (meth.sig.returnType = rt) && !meth.locks && decide (parseMethodDescriptor y.desc = some meth.sig)) = true) : (Jvm.Cond.code y bytes mx rt).before a s = true := by
  simp only [Bool.and_eq_true, beq_iff_eq, Bool.not_eq_true', decide_eq_true_eq] at h5
  obtain ⟨⟨⟨⟨⟨g1, g2⟩, g3⟩, g4⟩, g5⟩, g6⟩ := h5
  simp [Cond.before, Cond.holds, Cond.value, h1, h2, h3, h4, g1, g2, g3, g4, g5, g6]
def isCode : Jvm.Cond → Bool
  | .code _ _ _ _ => true
  | _ => false
theorem all_split {L : List Jvm.Cond} {P : Jvm.Cond → Bool} (h1 : L.all (fun c => isCode c || P c) = true) (h2 : ∀ c ∈ L.filter isCode, P c = true) : L.all P = true := by
  refine List.all_eq_true.mpr fun c hc => ?_
  have h := List.all_eq_true.mp h1 c hc
  rcases Bool.eq_false_or_eq_true (isCode c) with hi | hi
  · exact h2 c (List.mem_filter.mpr ⟨hc, hi⟩)
  · simpa [hi] using h
set_option maxRecDepth 65536 in
theorem w_c0 : (Jvm.Cond.code x code maxLocals ret).before args0 about1 = true := code_word (m := ⟨1, 3⟩) (meth := k1m3) (c := k1c3) (by decide +kernel) rfl rfl rfl (by decide +kernel)
set_option maxRecDepth 65536 in
theorem w_c1 : (Jvm.Cond.code ({ cls := "com/example/skwash/skwash/command/Glob", name := "lowerCase", desc := "([B)[B" } : Jvm.MethodName) prog_5_method_2_code (3 : Nat) (Option.some (Jvm.ClassFile.FieldType.array Jvm.ClassFile.FieldType.byte))).before args0 about1 = true := code_word (m := ⟨2, 1⟩) (meth := k2m1) (c := k2c1) (by decide +kernel) rfl rfl rfl (by decide +kernel)
set_option maxRecDepth 65536 in
theorem w_c2 : (Jvm.Cond.code ({ cls := "com/example/skwash/skwash/command/GlobLowerCasePinLaw", name := "ok", desc := "([B[BIIB)Z" } : Jvm.MethodName) method_3_code (5 : Nat) (Option.some Jvm.ClassFile.FieldType.boolean)).before args0 about1 = true := code_word (m := ⟨1, 2⟩) (meth := k1m2) (c := k1c2) (by decide +kernel) rfl rfl rfl (by decide +kernel)
set_option maxRecDepth 65536 in
theorem w_c3 : (Jvm.Cond.code ({ cls := "com/example/skwash/skwash/command/GlobLowerCasePinLaw", name := "lower", desc := "(B)B" } : Jvm.MethodName) method_2_code (1 : Nat) (Option.some Jvm.ClassFile.FieldType.byte)).before args0 about1 = true := code_word (m := ⟨1, 1⟩) (meth := k1m1) (c := k1c1) (by decide +kernel) rfl rfl rfl (by decide +kernel)
def codes1 : List Jvm.Cond := [Jvm.Cond.code x code maxLocals ret, Jvm.Cond.code ({ cls := "com/example/skwash/skwash/command/Glob", name := "lowerCase", desc := "([B)[B" } : Jvm.MethodName) prog_5_method_2_code (3 : Nat) (Option.some (Jvm.ClassFile.FieldType.array Jvm.ClassFile.FieldType.byte)), Jvm.Cond.code ({ cls := "com/example/skwash/skwash/command/GlobLowerCasePinLaw", name := "ok", desc := "([B[BIIB)Z" } : Jvm.MethodName) method_3_code (5 : Nat) (Option.some Jvm.ClassFile.FieldType.boolean), Jvm.Cond.code ({ cls := "com/example/skwash/skwash/command/GlobLowerCasePinLaw", name := "lower", desc := "(B)B" } : Jvm.MethodName) method_2_code (1 : Nat) (Option.some Jvm.ClassFile.FieldType.byte)]
set_option maxRecDepth 65536 in
theorem codes_eq : words1.filter isCode = codes1 := rfl
theorem w_codes : ∀ c ∈ words1.filter isCode, c.before args0 about1 = true := by
  rw [codes_eq]
  intro c hc
  simp only [codes1, List.mem_cons, List.not_mem_nil, or_false] at hc
  rcases hc with rfl | rfl | rfl | rfl
  · exact w_c0
  · exact w_c1
  · exact w_c2
  · exact w_c3
set_option maxRecDepth 65536 in
theorem w_t1 : words1.all (fun c => isCode c || c.before args0 about1) = true := by decide +kernel
theorem w_tables : (allAtoms (Jvm.Cond.code x code maxLocals ret :: tables_1)).before args0 about1 = true := by
  rw [allAtoms_all]
  show words1.all (fun c => c.before args0 about1) = true
  refine all_split ?_ w_codes
  rw [w_t1]
set_option maxRecDepth 65536 in
theorem w_case : (Jvm.Cond.and given_1 narrow_1).before args0 about1 = true := by decide +kernel
theorem w_applies : (headSpec (Jvm.Cond.code x code maxLocals ret :: tables_1) room_1).applies x e0.platform about1 = true :=
  (Spec.applies_iff w_frames).mpr ⟨w_running, w_runnable, w_alone, w_named, w_hears, w_ripe, w_room, w_tables⟩
theorem atStart : AtStart classFile x code maxLocals ret World_1 tables_1 room_1 Calls_1 rest_1 Pre_1 launch0 p0 e0 about1 theMethod args0 below0 :=
  ⟨lists_1, trivial, launch0.admits_env _ _ _, launch0.least_env, fairChoices_fair.cas, fairChoices_fair.clock, w_frames, w_args, w_heap, w_applies, trivial, trivial, w_case⟩
end start1
theorem witness_1 : WitnessClaimed_1 := ⟨start1.p0, start1.e0, start1.about1, start1.theMethod, start1.args0, start1.below0, start1.atStart⟩
end Jvm.Pilot.@@N@@
