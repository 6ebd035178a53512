import JvmDerived
import JvmDerived.Pilot.@@N@@Statement
import JvmDerived.Pilot.@@N@@Code
set_option linter.unusedVariables false
set_option linter.unusedSimpArgs false
namespace Jvm.RoadKit
open Sem ClassFile Op Lib Jvm.Stand Jvm.Free Jvm.LawKit
section New
variable {p : Program} {l : Launch} {e : Env} {R : Room} {s : State} {m : MethodId} {args : Array Value} {below : List Frame} {meth : Method} {c : Code} {T : State} {locs : List Loc} {cells slots : Nat}
theorem retI (X : Stand p l e R s m args below meth c T locs cells slots) (hx : p.tables.exec = Jvm.exec) {pc : Nat} {Ls : Array Slot} {z : Int32} {rest : List Value} (hret : meth.sig.returnType = some .int) (hd : decode c.code pc = .ok (.ireturn, 1)) {fs : List Frame}
    (hl : ∀ (f : JFrame) (acts : List Action), f.method = m → f.locked = none → f.entered = [] → (doReturn e (T.setTop f) acts (some (.int z))).1 = T.setFrames fs) : Steps p.tables e below (T.setTop (mkF m pc Ls (.int z :: rest))) (T.setFrames fs) := by
  have hm' : T.vm.method? m = some meth := X.method'
  have hn : narrow .int (.int z) = .int z := rfl
  show Steps p.tables e below (T.setTop { method := m, pc := pc, locals := Ls, stack := _ :: rest, locked := none }) _
  jvm_step X.here [X.here.top, hx, hd, hm', hret, hn]
  first | (intro acts; rw [hl _ acts rfl rfl rfl]) | rw [hl _ _ rfl rfl rfl]
  exact Steps.refl _
end New
end Jvm.RoadKit
namespace Jvm.Pilot.@@N@@
open Jvm Jvm.ClassFile Sem Op Lib Jvm.Free Jvm.Stand Jvm.LawKit Jvm.RoadKit Bundle Jvm.Pilot.@@N@@.Jvm.D
theorem own_imod (x y : Int32) : x - (x / y) * y = x % y := by
  have hd : x / y = Int32.ofInt (x.toInt.tdiv y.toInt) := Int32.toInt_inj.mp (by rw [Int32.toInt_div, Int32.toInt_ofInt])
  have hm : x % y = Int32.ofInt (x.toInt.tmod y.toInt) := by rw [← Int32.toInt_mod, Int32.ofInt_toInt]
  have e := Int.tmod_add_mul_tdiv x.toInt y.toInt
  have e2 : x.toInt.tmod y.toInt = x.toInt - x.toInt.tdiv y.toInt * y.toInt := by rw [Int.mul_comm (x.toInt.tdiv y.toInt)]; omega
  rw [hm, e2, Int32.ofInt_sub, Int32.ofInt_mul, Int32.ofInt_toInt, Int32.ofInt_toInt, ← hd]
theorem own_irem {tb : Tables} [Ours tb] {e : Env} {below : List Frame} {T target : State} {m : MethodId} {c : Code} {g : JFrame} (h : At T m c below) (hx : tb.exec = Jvm.exec) (hg : g.method = m) {x y : Int32} {rest : List Value} (hd : decode c.code g.pc = .ok (.irem, 1)) (hs : g.stack = .int y :: .int x :: rest) (hy : y ≠ 0) (hr : Steps tb e below (T.setTop { g with pc := g.pc + 1, stack := .int (x % y) :: rest }) target) : Steps tb e below (T.setTop g) target := XS.irem h hx hg hd hs hy (by rw [own_imod]; exact hr)
theorem own_lrem {tb : Tables} [Ours tb] {e : Env} {below : List Frame} {T target : State} {m : MethodId} {c : Code} {g : JFrame} (h : At T m c below) (hx : tb.exec = Jvm.exec) (hg : g.method = m) {x y : Int64} {rest : List Value} (hd : decode c.code g.pc = .ok (.lrem, 1)) (hs : g.stack = .long y :: .long x :: rest) (hy : y ≠ 0) (hr : Steps tb e below (T.setTop { g with pc := g.pc + 1, stack := .long (x % y) :: rest }) target) : Steps tb e below (T.setTop g) target := XS.lrem h hx hg hd hs hy (by rw [lrem_mod]; exact hr)
theorem own_retL {p : Program} {l : Launch} {e : Env} {R : Room} {s : State} {m : MethodId} {args : Array Value} {below : List Frame} {meth : Method} {c : Code} {T : State} {locs : List Loc} {cells slots : Nat} (X : Stand p l e R s m args below meth c T locs cells slots) (hx : p.tables.exec = Jvm.exec) {pc : Nat} {Ls : Array Slot} {z : Int64} {rest : List Value} (hret : meth.sig.returnType = some .long) (hd : decode c.code pc = .ok (.lreturn, 1)) {fs : List Frame} (hl : ∀ (f : JFrame) (acts : List Action), f.method = m → f.locked = none → f.entered = [] → (doReturn e (T.setTop f) acts (some (.long z))).1 = T.setFrames fs) : Steps p.tables e below (T.setTop (mkF m pc Ls (.long z :: rest))) (T.setFrames fs) := by
  have hm' : T.vm.method? m = some meth := X.method'
  show Steps p.tables e below (T.setTop { method := m, pc := pc, locals := Ls, stack := _ :: rest, locked := none }) _
  jvm_step X.here [X.here.top, hx, hd, hm', hret, narrow]
  first | (intro acts; rw [hl _ acts rfl rfl rfl]) | rw [hl _ _ rfl rfl rfl]
  exact Steps.refl _
def own_Qr (h0 : Heap) (n0 : Nat) (r : Value) (v : Option Value) (h : Heap) (L : List Loc) : Prop := v = some r ∧ Fr n0 L ∧ h = h0

theorem own_ti {k : Nat} (h : k < 2147483648) : (Int32.ofNat k).toInt = k := len_toInt (by omega)
theorem own_nc {k : Nat} (h : k < 2147483648) : (Int32.ofNat k).toNatClampNeg = k := by
  simp only [Int32.toNatClampNeg, own_ti h]; omega
theorem own_ltn {i n : Nat} (hi : i < 2147483648) (hn : n < 2147483648) : Int32.ofNat i < Int32.ofNat n ↔ i < n := by
  rw [Int32.lt_iff_toInt_lt, own_ti hi, own_ti hn]; omega
theorem own_nneg {k : Nat} (h : k < 2147483648) : ¬ Int32.ofNat k < 0 := by
  have h0 : (0 : Int32).toInt = 0 := by decide
  rw [Int32.lt_iff_toInt_lt, own_ti h, h0]; omega
theorem own_add1 (k : Nat) : Int32.ofNat k + (1 : Int32) = Int32.ofNat (k + 1) := (Int32.ofNat_add k 1).symm
theorem own_sub1 (k : Nat) : Int32.ofNat (k + 1) - (1 : Int32) = Int32.ofNat k := by
  rw [← own_add1]; exact Int32.add_sub_cancel _ _
theorem own_dec1 (k : Nat) : Int32.ofNat (k + 1) + (-1 : Int32) = Int32.ofNat k := by
  rw [← own_sub1 k, Int32.sub_eq_add_neg]
theorem own_inb {k N : Nat} {cl : Cell} (S : cl.slots.size = N) (h : k < N) (hN : N < 2147483648) : ¬ (Int32.ofNat k < 0 ∨ cl.slots.size ≤ (Int32.ofNat k).toNatClampNeg) := by
  rw [S, own_nc (by omega)]
  rintro (q | q)
  · exact own_nneg (by omega) q
  · omega

def own_AF (Z : State) (h : Heap) (a : Addr) (ty : FieldType) (N : Nat) (f : Nat → Value) : Prop := N < 2147483648 ∧ ∃ cl : Cell, Arr Z h a cl ty ∧ cl.slots.size = N ∧ (∀ j, j < N → cl.slots[j]? = some (f j)) ∧ ∀ j, j < N → fits ty (f j) = true
theorem own_AF.lt {Z : State} {h : Heap} {a : Addr} {ty : FieldType} {N : Nat} {f : Nat → Value} (F : own_AF Z h a ty N f) : a < h.size := by obtain ⟨-, c, A, -⟩ := F; exact A.lt
theorem own_AF.ext {Z : State} {h h' : Heap} {a : Addr} {ty : FieldType} {N : Nat} {f : Nat → Value} (F : own_AF Z h a ty N f) (E : Ext h h') : own_AF Z h' a ty N f := by obtain ⟨q, c, A, r⟩ := F; exact ⟨q, c, A.ext E, r⟩
theorem own_AF.other {Z : State} {h h' : Heap} {a b : Addr} {sl : Nat} {v : Value} {ty : FieldType} {N : Nat} {f : Nat → Value} (F : own_AF Z h b ty N f) (W : Wr h h' a sl v) (q : b ≠ a) : own_AF Z h' b ty N f := by obtain ⟨k, c, A, r⟩ := F; exact ⟨k, c, A.other W q, r⟩
theorem own_AF.keep {Z : State} {h h' : Heap} {a : Addr} {ws : List Addr} {ty : FieldType} {N : Nat} {f : Nat → Value} (F : own_AF Z h a ty N f) (K : Keep h h' ws) (q : a ∉ ws) : own_AF Z h' a ty N f := by obtain ⟨k, c, A, r⟩ := F; exact ⟨k, c, ⟨K.2.1 a c A.1 q, A.2⟩, r⟩
def own_upd {α : Type} (f : Nat → α) (j : Nat) (v : α) : Nat → α := fun k => if k = j then v else f k
theorem own_AF.set {Z : State} {h h' : Heap} {a : Addr} {j : Nat} {v : Value} {ty : FieldType} {N : Nat} {f : Nat → Value} (F : own_AF Z h a ty N f) (W : Wr h h' a j v) (hj : j < N) (hv : fits ty v = true) : own_AF Z h' a ty N (own_upd f j v) := by
  obtain ⟨k, c, A, S, H, G⟩ := F
  refine ⟨k, _, A.same W, by rw [sz_set]; exact S, fun i hi => ?_, fun i hi => ?_⟩
  · show (c.slots.setIfInBounds j v)[i]? = some (if i = j then v else f i)
    by_cases q : i = j
    · subst q
      rw [if_pos rfl, Array.getElem?_setIfInBounds_self_of_lt (by rw [S]; exact hj)]
    · rw [if_neg q, Array.getElem?_setIfInBounds_ne (fun z => q z.symm)]; exact H i hi
  · show fits ty (if i = j then v else f i) = true
    by_cases q : i = j
    · rw [if_pos q]; exact hv
    · rw [if_neg q]; exact G i hi
theorem own_AF.of {Z : State} {h : Heap} {a : Addr} {k : ClassId} {ty : FieldType} {z : Int32} {vs : List Value} {dv : Value} (V : Arv Z h a k ty z vs dv) (N : Nat) (hN : z.toNatClampNeg = N) (f : Nat → Value) (hf : ∀ j, j < N → vs.getD j dv = f j) : own_AF Z h a ty N f := by
  obtain ⟨c, A, -, S, M, H, G⟩ := V
  have hS : c.slots.size = N := S.trans hN
  refine ⟨by rw [← hN]; exact (back32 M).2, c, A, hS, fun j hj => ?_, fun j hj => ?_⟩
  · rw [← hf j hj]; exact H j (by rw [hS]; exact hj)
  · rw [← hf j hj]; exact G j (by rw [hS]; exact hj)
theorem own_AF.arv {Z : State} {h : Heap} {a : Addr} {ty : FieldType} {N : Nat} {f : Nat → Value} (F : own_AF Z h a ty N f) (dv : Value) : ∃ k, Arv Z h a k ty (Int32.ofNat N) ((List.range N).map f) dv := by
  obtain ⟨q, c, A, S, H, G⟩ := F
  have e : ∀ j, j < N → ((List.range N).map f).getD j dv = f j := fun j hj => by simp [List.getD_eq_getElem?_getD, hj]
  refine ⟨c.cls, c, A, rfl, by rw [own_nc q]; exact S, own_nneg q, fun j hj => ?_, fun j hj => ?_⟩
  · rw [S] at hj; rw [e j hj]; exact H j hj
  · rw [S] at hj; rw [e j hj]; exact G j hj
theorem own_AF.congr {Z : State} {h : Heap} {a : Addr} {ty : FieldType} {N : Nat} {f g : Nat → Value} (F : own_AF Z h a ty N f) (e : ∀ j, j < N → f j = g j) : own_AF Z h a ty N g := by
  obtain ⟨q, c, A, S, H, G⟩ := F
  exact ⟨q, c, A, S, fun j hj => by rw [← e j hj]; exact H j hj, fun j hj => by rw [← e j hj]; exact G j hj⟩

def own_HT (Z : State) (n0 : Nat) (h : Heap) (a ca pa : Addr) (n : Nat) (f : Nat → Nat) (g : Nat → Int64) : Prop :=
  Exa Z h a "com/example/upweight/upweight/HeldTerms" ∧ Fld Z h a "com/example/upweight/upweight/HeldTerms" "counts" "[J" (.ref ca) ∧ Fld Z h a "com/example/upweight/upweight/HeldTerms" "places" "[I" (.ref pa) ∧ Fld Z h a "com/example/upweight/upweight/HeldTerms" "size" "I" (.int (Int32.ofNat n)) ∧ own_AF Z h pa .int 4 (fun j => .int (Int32.ofNat (f j))) ∧ own_AF Z h ca .long 4 (fun j => .long (g j)) ∧ (∀ j, f j < 4) ∧ a ≠ pa ∧ a ≠ ca ∧ pa ≠ ca ∧ n0 ≤ a ∧ n0 ≤ pa ∧ n0 ≤ ca
def own_sh (p : Nat) : Nat → (Nat → Nat) → Nat × (Nat → Nat)
  | 0, f => (0, f)
  | k + 1, f => if p < f k then own_sh p k (own_upd f (k + 1) (f k)) else (k + 1, f)
def own_ins (p n : Nat) (f : Nat → Nat) : Nat → Nat := own_upd (own_sh p n f).2 (own_sh p n f).1 p
theorem own_sh_le (p : Nat) : ∀ (k : Nat) (f : Nat → Nat), (own_sh p k f).1 ≤ k
  | 0, f => Nat.le_refl _
  | k + 1, f => by
    simp only [own_sh]
    split
    · exact Nat.le_succ_of_le (own_sh_le p k _)
    · exact Nat.le_refl _
theorem own_updlt {f : Nat → Nat} {B : Nat} (h : ∀ j, f j < B) (k v : Nat) (hv : v < B) : ∀ j, own_upd f k v j < B := fun j => by
  unfold own_upd; split
  · exact hv
  · exact h j
theorem own_sh_lt (p B : Nat) : ∀ (k : Nat) (f : Nat → Nat), (∀ j, f j < B) → ∀ j, (own_sh p k f).2 j < B
  | 0, f, h => h
  | k + 1, f, h => by
    simp only [own_sh]
    split
    · exact own_sh_lt p B k _ (own_updlt h _ _ (h k))
    · exact h
theorem own_pf {Z : State} {h h' : Heap} {a : Addr} {k v : Nat} {f : Nat → Nat} (F : own_AF Z h a .int 4 (fun j => .int (Int32.ofNat (f j)))) (W : Wr h h' a k (.int (Int32.ofNat v))) (hk : k < 4) : own_AF Z h' a .int 4 (fun j => .int (Int32.ofNat (own_upd f k v j))) :=
  (F.set W hk rfl).congr fun j _ => by unfold own_upd; split <;> rfl
theorem own_cf {Z : State} {h h' : Heap} {a : Addr} {k : Nat} {v : Int64} {g : Nat → Int64} (F : own_AF Z h a .long 4 (fun j => .long (g j))) (W : Wr h h' a k (.long v)) (hk : k < 4) : own_AF Z h' a .long 4 (fun j => .long (own_upd g k v j)) :=
  (F.set W hk rfl).congr fun j _ => by unfold own_upd; split <;> rfl
theorem d2_0 : decode prog_8_method_1_code 0 = .ok (.aload_n 0, 1) := by decide +kernel
theorem d2_1 : decode prog_8_method_1_code 1 = .ok (.invokespecial 1, 3) := by decide +kernel
theorem d2_4 : decode prog_8_method_1_code 4 = .ok (.aload_n 0, 1) := by decide +kernel
theorem d2_5 : decode prog_8_method_1_code 5 = .ok (.iload_n 1, 1) := by decide +kernel
theorem d2_6 : decode prog_8_method_1_code 6 = .ok (.newarray .long, 2) := by decide +kernel
theorem d2_8 : decode prog_8_method_1_code 8 = .ok (.putfield 7, 3) := by decide +kernel
theorem d2_11 : decode prog_8_method_1_code 11 = .ok (.aload_n 0, 1) := by decide +kernel
theorem d2_12 : decode prog_8_method_1_code 12 = .ok (.iload_n 1, 1) := by decide +kernel
theorem d2_13 : decode prog_8_method_1_code 13 = .ok (.newarray .int, 2) := by decide +kernel
theorem d2_15 : decode prog_8_method_1_code 15 = .ok (.putfield 13, 3) := by decide +kernel
theorem d2_18 : decode prog_8_method_1_code 18 = .ok (.return_, 1) := by decide +kernel
theorem pn_2 : plainName "com/example/upweight/upweight/HeldTerms" = true := by first | (simp [plainName, overriddenIn]; done) | decide +kernel
theorem ef_2 (m : MethodId) (x0 : Addr) (x1 : Int32) : entryFrame m #[(.ref x0), (.int x1)] 2 = mkF m 0 #[.val (.ref x0), .val (.int x1)] [] := by first | (simp [entryFrame, mkF, argsToLocals, Value.category]; done) | rfl
def Q2 (Z : State) (a1 : Addr) (p2 : Int32) (u_counts_a1 : Value) (u_places_a1 : Value) (h0 : Heap) (n0 : Nat) (v : Option Value) (h : Heap) (L : List Loc) : Prop := v = none ∧ Fr n0 L ∧ Keep h0 h [a1] ∧ ∃ ca pa, own_HT Z n0 h a1 ca pa 0 (fun _ => 0) (fun _ => 0)
set_option maxRecDepth 65536 in
set_option maxHeartbeats 40000000 in
theorem rm2 (l : Launch) (Z : State) (a0 : Array Value) (hw : ∀ d ∈ tables_1, d.before a0 Z = true) (ws : List Jvm.Cond) (a1 : Addr) (p2 : Int32) (u_counts_a1 : Value) (u_places_a1 : Value) (h0 : Heap) (n0 : Nat) (Z0 : n0 ≤ h0.size) (hp2 : p2 = 4) (F_size_a1 : Fld Z h0 a1 "com/example/upweight/upweight/HeldTerms" "size" "I" (.int 0)) (E_a1 : Exa Z h0 a1 "com/example/upweight/upweight/HeldTerms") (F_counts_a1 : Fld Z h0 a1 "com/example/upweight/upweight/HeldTerms" "counts" "[J" u_counts_a1) (g_a1 : n0 ≤ a1) (F_places_a1 : Fld Z h0 a1 "com/example/upweight/upweight/HeldTerms" "places" "[I" u_places_a1) :
    MetFree l (⟨"com/example/upweight/upweight/HeldTerms", "<init>", "(I)V"⟩ : MethodName) (head1 (Jvm.Cond.code (⟨"com/example/upweight/upweight/HeldTerms", "<init>", "(I)V"⟩ : MethodName) prog_8_method_1_code 2 none :: ws) ({ frames := 1, cells := 2, slots := 8, locals := 12 } : Room)) (fun a U => a = #[(.ref a1), (.int p2)] ∧ Z.Warmed39 U.vm ∧ U.heap = h0) (fun _ _ _ _ _ => True) (fun _ U o U' => ∃ v L, o = .returned v ∧ Q2 Z a1 p2 u_counts_a1 u_places_a1 h0 n0 v U'.heap L ∧ FrameEnd U o U' L ({ frames := 1, cells := 2, slots := 8, locals := 12 } : Room).cells ({ frames := 1, cells := 2, slots := 8, locals := 12 } : Room).slots) := by
  refine MetFree.of_bodySF (plainFor_of_name pn_2) hisR ?_
  intro p e s m args below meth c s₁ Bd hml0 hP hK
  obtain ⟨rfl, hZ, hh⟩ := hP
  have hx := Bd.exec
  have hby := Bd.bytes
  have hml : c.maxLocals = 2 := hml0
  have hown : s.vm.findClass "com/example/upweight/upweight/HeldTerms" = some m.cls := findClass_of_methodNamed Bd.named
  have hnm := (name_of_methodNamed Bd.named Bd.method).1
  have X0 : Stand p l e ({ frames := 1, cells := 2, slots := 8, locals := 12 } : Room) s m #[(.ref a1), (.int p2)] below meth c s₁ [] 0 0 := Stand.of_body Bd
  have e0 : s₁.heap = h0 := by rw [← hh, Bd.state]; rfl
  have N0 := Fr.nil n0
  have pre0 : ∀ t, Steps p.tables e below (s₁.setTop (mkF m 0 #[.val (.ref a1), .val (.int p2)] [])) t → Steps p.tables e below (s₁.setTop (entryFrame m #[(.ref a1), (.int p2)] 2)) t := fun t k => castTop (ef_2 m a1 p2) k
  obtain ⟨T3, X3, e3, st3⟩ := initO X0 hx hZ hown (hw _ (List.mem_of_getElem? (i := 13) rfl)) (hw _ (List.mem_of_getElem? (i := 14) rfl)) (hw _ (List.mem_of_getElem? (i := 15) rfl)) e0 (g := (mkF m 1 #[.val (.ref a1), .val (.int p2)] [(.ref a1)])) rfl (by rw [hml]; rfl) rfl (hb hby d2_1) (by decide) (W := 0) (by show 2 * 0 + _ ≤ _; exact Nat.le_of_eq rfl) (by decide)
  obtain ⟨T4, h4, k4, X4, e4, E4, A4, st4⟩ := newP X3 hx hZ (hw _ (List.mem_of_getElem? (i := 16) rfl)) e3 (g := (mkF m 6 #[.val (.ref a1), .val (.int p2)] [(.int p2), (.ref a1)])) rfl (hb hby d2_6) rfl (by rw [hp2]; decide) (cap := 4) (by rw [hp2]; decide) (by decide) (by decide) (by decide)
  obtain ⟨b4, g4⟩ : ∃ z, z = h0.size := ⟨_, rfl⟩
  rw [← g4] at A4 st4
  have V_b4 := Arv.new A4 (by rw [hp2]; decide)
  have g_b4 : n0 ≤ b4 := Nat.le_trans Z0 (Nat.le_of_eq g4.symm)
  have sz_b4 : h0.size ≤ b4 := (Nat.le_trans (Keep.refl h0 [a1]).1 (Nat.le_of_eq g4.symm))
  have K4 : Keep h0 h4 [a1] := (Keep.refl h0 [a1]).ext E4
  obtain ⟨T5, h5, X5, e5, W5, st5⟩ := putF X4 hx hZ hown (host := "") (Or.inl (hw _ (List.mem_of_getElem? (i := 17) rfl))) Via.refl e4 (F_counts_a1.ext E4) (E_a1.ext E4) (Or.inr ⟨(hw _ (List.mem_of_getElem? (i := 18) rfl)), rfl, hnm⟩) (hw _ (List.mem_of_getElem? (i := 8) rfl)) (ty := (.array .long)) (by decide) rfl rfl (g := (mkF m 8 #[.val (.ref a1), .val (.int p2)] [(.ref b4), (.ref a1)])) rfl rfl (hb hby d2_8)
  have Fw5 := (F_counts_a1.ext E4).same W5
  have K5 : Keep h0 h5 [a1] := K4.wr W5 (Or.inl (List.mem_of_getElem? (i := 0) rfl))
  have N5 := Fr.snoc X5 N0 g_a1
  obtain ⟨T6, h6, k6, X6, e6, E6, A6, st6⟩ := newP X5 hx hZ (hw _ (List.mem_of_getElem? (i := 1) rfl)) e5 (g := (mkF m 13 #[.val (.ref a1), .val (.int p2)] [(.int p2), (.ref a1)])) rfl (hb hby d2_13) rfl (by rw [hp2]; decide) (cap := 4) (by rw [hp2]; decide) (by decide) (by decide) (by decide)
  obtain ⟨b6, g6⟩ : ∃ z, z = h5.size := ⟨_, rfl⟩
  rw [← g6] at A6 st6
  have V_b6 := Arv.new A6 (by rw [hp2]; decide)
  have g_b6 : n0 ≤ b6 := Nat.le_trans (Nat.le_trans (Nat.le_trans Z0 E4.1) (Keep.of_wr W5).1) (Nat.le_of_eq g6.symm)
  have sz_b6 : h0.size ≤ b6 := (Nat.le_trans K5.1 (Nat.le_of_eq g6.symm))
  have K6 : Keep h0 h6 [a1] := K5.ext E6
  obtain ⟨T7, h7, X7, e7, W7, st7⟩ := putF X6 hx hZ hown (host := "") (Or.inl (hw _ (List.mem_of_getElem? (i := 19) rfl))) Via.refl e6 (((F_places_a1.ext E4).other W5 (Or.inr (slot_ne (Or.inr (hw _ (List.mem_of_getElem? (i := 20) rfl))) (Or.inr (hw _ (List.mem_of_getElem? (i := 18) rfl))) (by decide) (t := (.array .int)) (t' := (.array .long)) (by decide) (by decide)))).ext E6) (((E_a1.ext E4).wr W5).ext E6) (Or.inr ⟨(hw _ (List.mem_of_getElem? (i := 20) rfl)), rfl, hnm⟩) (hw _ (List.mem_of_getElem? (i := 8) rfl)) (ty := (.array .int)) (by decide) rfl rfl (g := (mkF m 15 #[.val (.ref a1), .val (.int p2)] [(.ref b6), (.ref a1)])) rfl rfl (hb hby d2_15)
  have Fw7 := (((F_places_a1.ext E4).other W5 (Or.inr (slot_ne (Or.inr (hw _ (List.mem_of_getElem? (i := 20) rfl))) (Or.inr (hw _ (List.mem_of_getElem? (i := 18) rfl))) (by decide) (t := (.array .int)) (t' := (.array .long)) (by decide) (by decide)))).ext E6).same W7
  have K7 : Keep h0 h7 [a1] := K6.wr W7 (Or.inl (List.mem_of_getElem? (i := 0) rfl))
  have N7 := Fr.snoc X7 N5 g_a1
  obtain ⟨fs, hr, hrun, hended, hW, hsame⟩ := X7.leave (v := none) (fun _ => rfl)
  refine ⟨_, _, pre0 _ ?_, hrun, hended, _, _, rfl, ?_, ⟨_, rfl⟩, hW, hsame.mono (by decide) (by decide)⟩
  · show Steps p.tables e below (s₁.setTop (mkF m 0 #[.val (.ref a1), .val (.int p2)] [])) _
    refine XS.aloadN X0.here hx rfl (hb hby d2_0) rfl rfl ?_
    show Steps p.tables e below (s₁.setTop (mkF m 1 #[.val (.ref a1), .val (.int p2)] [(.ref a1)])) _
    refine st3 _ ?_
    show Steps p.tables e below (T3.setTop (mkF m 4 #[.val (.ref a1), .val (.int p2)] [])) _
    refine XS.aloadN X3.here hx rfl (hb hby d2_4) rfl rfl ?_
    show Steps p.tables e below (T3.setTop (mkF m 5 #[.val (.ref a1), .val (.int p2)] [(.ref a1)])) _
    refine XS.iloadN X3.here hx rfl (hb hby d2_5) rfl ?_
    show Steps p.tables e below (T3.setTop (mkF m 6 #[.val (.ref a1), .val (.int p2)] [(.int p2), (.ref a1)])) _
    refine st4 _ ?_
    show Steps p.tables e below (T4.setTop (mkF m 8 #[.val (.ref a1), .val (.int p2)] [(.ref b4), (.ref a1)])) _
    refine st5 _ ?_
    show Steps p.tables e below (T5.setTop (mkF m 11 #[.val (.ref a1), .val (.int p2)] [])) _
    refine XS.aloadN X5.here hx rfl (hb hby d2_11) rfl rfl ?_
    show Steps p.tables e below (T5.setTop (mkF m 12 #[.val (.ref a1), .val (.int p2)] [(.ref a1)])) _
    refine XS.iloadN X5.here hx rfl (hb hby d2_12) rfl ?_
    show Steps p.tables e below (T5.setTop (mkF m 13 #[.val (.ref a1), .val (.int p2)] [(.int p2), (.ref a1)])) _
    refine st6 _ ?_
    show Steps p.tables e below (T6.setTop (mkF m 15 #[.val (.ref a1), .val (.int p2)] [(.ref b6), (.ref a1)])) _
    refine st7 _ ?_
    show Steps p.tables e below (T7.setTop (mkF m 18 #[.val (.ref a1), .val (.int p2)] [])) _
    exact X7.returnOut hx Bd.returns (hb hby d2_18) hr
  · show Q2 Z a1 p2 u_counts_a1 u_places_a1 h0 n0 _ T7.heap _
    rw [e7]
    have q4 : own_AF Z h4 b4 .long 4 (fun _ => .long 0) := own_AF.of V_b4 4 (by rw [hp2]; rfl) _ (fun j _ => rfl)
    have q6 : own_AF Z h6 b6 .int 4 (fun _ => .int (Int32.ofNat 0)) := own_AF.of V_b6 4 (by rw [hp2]; rfl) _ (fun j _ => rfl)
    exact ⟨rfl, N7, K7, b4, b6, (((E_a1.ext E4).wr W5).ext E6).wr W7, (Fw5.ext E6).other W7 (Or.inr (slot_ne (Or.inr (hw _ (List.mem_of_getElem? (i := 18) rfl))) (Or.inr (hw _ (List.mem_of_getElem? (i := 20) rfl))) (by decide) (t := (.array .long)) (t' := (.array .int)) (by decide) (by decide))), Fw7, (((F_size_a1.ext E4).other W5 (Or.inr (slot_ne (Or.inl (hw _ (List.mem_of_getElem? (i := 27) rfl))) (Or.inr (hw _ (List.mem_of_getElem? (i := 18) rfl))) (by decide) (t := .int) (t' := (.array .long)) (by decide) (by decide)))).ext E6).other W7 (Or.inr (slot_ne (Or.inl (hw _ (List.mem_of_getElem? (i := 27) rfl))) (Or.inr (hw _ (List.mem_of_getElem? (i := 20) rfl))) (by decide) (t := .int) (t' := (.array .int)) (by decide) (by decide))), q6.other W7 (Nat.ne_of_lt (Nat.lt_of_lt_of_le E_a1.lt sz_b6)).symm, ((q4.other W5 (Nat.ne_of_lt (Nat.lt_of_lt_of_le E_a1.lt sz_b4)).symm).ext E6).other W7 (Nat.ne_of_lt (Nat.lt_of_lt_of_le E_a1.lt sz_b4)).symm, fun _ => by show (0 : Nat) < 4; decide, (Nat.ne_of_lt (Nat.lt_of_lt_of_le E_a1.lt sz_b6)), (Nat.ne_of_lt (Nat.lt_of_lt_of_le E_a1.lt sz_b4)), (Nat.ne_of_lt (Nat.lt_of_lt_of_le A4.lt (Nat.le_trans (Keep.of_wr W5).1 (Nat.le_of_eq g6.symm)))).symm, g_a1, g_b6, g_b4⟩
theorem d4_0 : decode prog_8_method_5_code 0 = .ok (.aload_n 0, 1) := by decide +kernel
theorem d4_1 : decode prog_8_method_5_code 1 = .ok (.dup, 1) := by decide +kernel
theorem d4_2 : decode prog_8_method_5_code 2 = .ok (.getfield 17, 3) := by decide +kernel
theorem d4_5 : decode prog_8_method_5_code 5 = .ok (.dup_x1, 1) := by decide +kernel
theorem d4_6 : decode prog_8_method_5_code 6 = .ok (.iconst 1, 1) := by decide +kernel
theorem d4_7 : decode prog_8_method_5_code 7 = .ok (.iadd, 1) := by decide +kernel
theorem d4_8 : decode prog_8_method_5_code 8 = .ok (.putfield 17, 3) := by decide +kernel
theorem d4_11 : decode prog_8_method_5_code 11 = .ok (.istore 4, 2) := by decide +kernel
theorem os4_11 {z0 : Value} {s1 : Slot} {s2 : Slot} {s3 : Slot} {s4 : Slot} {v : Int32} (h : One s4) : storeLocals #[.val z0, s1, s2, s3, s4] 4 (.int v) = some #[.val z0, s1, s2, s3, .val (.int v)] := by
  rcases h with rfl | ⟨w, rfl, hw⟩
  · rfl
  · cases w <;> first | rfl | (simp [Value.category] at hw)
set_option maxRecDepth 65536 in
set_option maxHeartbeats 40000000 in
theorem tn4_0_13 {p : Program} {l : Launch} {e : Env} {R : Room} {s : State} {m : MethodId} {args : Array Value} {below : List Frame} {meth : Method} {c : Code} {T0 : State} {locs : List Loc} {cells slots : Nat} {Z : State} {a0 : Array Value} {h0 : Heap} {n0 : Nat} (o0 : Addr) (s1 : Slot) (s2 : Slot) (s3 : Slot) (s4 : Slot) (w4 : Int32)
    (X0 : Stand p l e R s m args below meth c T0 locs cells slots) (hx : p.tables.exec = Jvm.exec) (hZ : Z.Warmed39 s.vm) (hw : ∀ d ∈ tables_1, d.before a0 Z = true) (hby : c.code = prog_8_method_5_code) (hml : c.maxLocals = 5) (hown : s.vm.findClass "com/example/upweight/upweight/HeldTerms" = some m.cls) (e0 : T0.heap = h0) (N0 : Fr n0 locs) (Z0 : n0 ≤ h0.size) (F_size_o0 : Fld Z h0 o0 "com/example/upweight/upweight/HeldTerms" "size" "I" (.int w4)) (E_o0 : Exa Z h0 o0 "com/example/upweight/upweight/HeldTerms") (g_o0 : n0 ≤ o0) (hs4 : One s4) :
    ∃ (T' : State) (h' : Heap) (locs' : List Loc), Stand p l e R s m args below meth c T' locs' cells slots ∧ T'.heap = h' ∧ Fr n0 locs' ∧ n0 ≤ h'.size ∧ (Keep h0 h' [o0] ∧ Exa Z h' o0 "com/example/upweight/upweight/HeldTerms" ∧ Fld Z h' o0 "com/example/upweight/upweight/HeldTerms" "size" "I" (.int (w4 + (1 : Int32))) ∧ ∃ W, Wr h0 h' o0 (Jvm.RoadKit.slotOf Z "com/example/upweight/upweight/HeldTerms" "size" "I") W) ∧
      ∀ target, Steps p.tables e below (T'.setTop (mkF m 13 #[.val (.ref o0), s1, s2, s3, .val (.int w4)] [])) target → Steps p.tables e below (T0.setTop (mkF m 0 #[.val (.ref o0), s1, s2, s3, s4] [])) target := by
  obtain ⟨T5, X5, e5, st5⟩ := getF X0 hx hZ hown (host := "") (Or.inl (hw _ (List.mem_of_getElem? (i := 26) rfl))) Via.refl e0 F_size_o0 (g := (mkF m 2 #[.val (.ref o0), s1, s2, s3, s4] [(.ref o0), (.ref o0)])) rfl rfl (hb hby d4_2)
  obtain ⟨T6, h6, X6, e6, W6, st6⟩ := putF X5 hx hZ hown (host := "") (Or.inl (hw _ (List.mem_of_getElem? (i := 26) rfl))) Via.refl e5 F_size_o0 E_o0 (Or.inl (hw _ (List.mem_of_getElem? (i := 27) rfl))) (hw _ (List.mem_of_getElem? (i := 8) rfl)) (ty := .int) (by decide) rfl rfl (g := (mkF m 8 #[.val (.ref o0), s1, s2, s3, s4] [(.int (w4 + (1 : Int32))), (.ref o0), (.int w4)])) rfl rfl (hb hby d4_8)
  have Fw6 := F_size_o0.same W6
  have K6 : Keep h0 h6 [o0] := (Keep.refl h0 [o0]).wr W6 (Or.inl (List.mem_of_getElem? (i := 0) rfl))
  have N6 := Fr.snoc X6 N0 g_o0
  refine ⟨T6, _, _, X6, e6, N6, (Nat.le_trans Z0 K6.1), ⟨K6, E_o0.wr W6, Fw6, _, W6⟩, fun target kt => ?_⟩
  show Steps p.tables e below (T0.setTop (mkF m 0 #[.val (.ref o0), s1, s2, s3, s4] [])) _
  refine XS.aloadN X0.here hx rfl (hb hby d4_0) rfl rfl ?_
  show Steps p.tables e below (T0.setTop (mkF m 1 #[.val (.ref o0), s1, s2, s3, s4] [(.ref o0)])) _
  refine XS.dup X0.here hx rfl (hb hby d4_1) rfl rfl ?_
  show Steps p.tables e below (T0.setTop (mkF m 2 #[.val (.ref o0), s1, s2, s3, s4] [(.ref o0), (.ref o0)])) _
  refine st5 _ ?_
  show Steps p.tables e below (T5.setTop (mkF m 5 #[.val (.ref o0), s1, s2, s3, s4] [(.int w4), (.ref o0)])) _
  refine XS.dupX1 X5.here hx rfl (hb hby d4_5) rfl rfl rfl ?_
  show Steps p.tables e below (T5.setTop (mkF m 6 #[.val (.ref o0), s1, s2, s3, s4] [(.int w4), (.ref o0), (.int w4)])) _
  refine XS.iconst X5.here hx rfl (hb hby d4_6) ?_
  show Steps p.tables e below (T5.setTop (mkF m 7 #[.val (.ref o0), s1, s2, s3, s4] [(.int (1 : Int32)), (.int w4), (.ref o0), (.int w4)])) _
  refine XS.iadd X5.here hx rfl (hb hby d4_7) rfl ?_
  show Steps p.tables e below (T5.setTop (mkF m 8 #[.val (.ref o0), s1, s2, s3, s4] [(.int (w4 + (1 : Int32))), (.ref o0), (.int w4)])) _
  refine st6 _ ?_
  show Steps p.tables e below (T6.setTop (mkF m 11 #[.val (.ref o0), s1, s2, s3, s4] [(.int w4)])) _
  refine XS.istore X6.here hx rfl (hb hby d4_11) rfl (l' := #[.val (.ref o0), s1, s2, s3, .val (.int w4)]) (os4_11 hs4) ?_
  exact kt
theorem d4_13 : decode prog_8_method_5_code 13 = .ok (.iload 4, 2) := by decide +kernel
theorem d4_15 : decode prog_8_method_5_code 15 = .ok (.ifCond .le 38, 3) := by decide +kernel
set_option maxRecDepth 65536 in
set_option maxHeartbeats 40000000 in
theorem tn4_z {p : Program} {l : Launch} {e : Env} {R : Room} {s : State} {m : MethodId} {args : Array Value} {below : List Frame} {meth : Method} {c : Code} {T0 : State} {locs : List Loc} {cells slots : Nat} {Z : State} {a0 : Array Value} {h0 : Heap} (s0 : Slot) (s1 : Slot) (s2 : Slot) (s3 : Slot) (i4 : Int32)
    (X0 : Stand p l e R s m args below meth c T0 locs cells slots) (hx : p.tables.exec = Jvm.exec) (hZ : Z.Warmed39 s.vm) (hw : ∀ d ∈ tables_1, d.before a0 Z = true) (hby : c.code = prog_8_method_5_code) (hml : c.maxLocals = 5) (hown : s.vm.findClass "com/example/upweight/upweight/HeldTerms" = some m.cls) (e0 : T0.heap = h0) (hc15 : ¬ ((0 : Int32) < i4)) :
    ∃ (T' : State), Stand p l e R s m args below meth c T' locs cells slots ∧ T'.heap = h0 ∧
      ∀ target, Steps p.tables e below (T'.setTop (mkF m 53 #[s0, s1, s2, s3, .val (.int i4)] [])) target → Steps p.tables e below (T0.setTop (mkF m 13 #[s0, s1, s2, s3, .val (.int i4)] [])) target := by

  refine ⟨T0, X0, e0, fun target kt => ?_⟩
  show Steps p.tables e below (T0.setTop (mkF m 13 #[s0, s1, s2, s3, .val (.int i4)] [])) _
  refine XS.iload X0.here hx rfl (hb hby d4_13) rfl ?_
  show Steps p.tables e below (T0.setTop (mkF m 15 #[s0, s1, s2, s3, .val (.int i4)] [(.int i4)])) _
  refine XS.ifYes X0.here hx rfl (pc0 := 15) (pc' := 53) rfl (hb hby d4_15) rfl ((if0 _ _).trans (flt hc15).2.2.2) (by decide) (by decide) ?_
  exact kt
theorem d4_18 : decode prog_8_method_5_code 18 = .ok (.aload_n 0, 1) := by decide +kernel
theorem d4_19 : decode prog_8_method_5_code 19 = .ok (.getfield 13, 3) := by decide +kernel
theorem d4_22 : decode prog_8_method_5_code 22 = .ok (.iload 4, 2) := by decide +kernel
theorem d4_24 : decode prog_8_method_5_code 24 = .ok (.iconst 1, 1) := by decide +kernel
theorem d4_25 : decode prog_8_method_5_code 25 = .ok (.isub, 1) := by decide +kernel
theorem d4_26 : decode prog_8_method_5_code 26 = .ok (.iaload, 1) := by decide +kernel
theorem d4_27 : decode prog_8_method_5_code 27 = .ok (.iload_n 1, 1) := by decide +kernel
theorem d4_28 : decode prog_8_method_5_code 28 = .ok (.if_icmp .le 25, 3) := by decide +kernel
set_option maxRecDepth 65536 in
set_option maxHeartbeats 40000000 in
theorem tn4_le {p : Program} {l : Launch} {e : Env} {R : Room} {s : State} {m : MethodId} {args : Array Value} {below : List Frame} {meth : Method} {c : Code} {T0 : State} {locs : List Loc} {cells slots : Nat} {Z : State} {a0 : Array Value} {h0 : Heap} (o0 : Addr) (i1 : Int32) (s2 : Slot) (s3 : Slot) (i4 : Int32) (w4 : Addr) (w6 : Int32) (cl_w4 : Cell)
    (X0 : Stand p l e R s m args below meth c T0 locs cells slots) (hx : p.tables.exec = Jvm.exec) (hZ : Z.Warmed39 s.vm) (hw : ∀ d ∈ tables_1, d.before a0 Z = true) (hby : c.code = prog_8_method_5_code) (hml : c.maxLocals = 5) (hown : s.vm.findClass "com/example/upweight/upweight/HeldTerms" = some m.cls) (e0 : T0.heap = h0) (F_places_o0 : Fld Z h0 o0 "com/example/upweight/upweight/HeldTerms" "places" "[I" (.ref w4)) (Ar_w4 : Arr Z h0 w4 cl_w4 .int) (hin26 : ¬ ((i4 - (1 : Int32)) < 0 ∨ cl_w4.slots.size ≤ ((i4 - (1 : Int32))).toNatClampNeg)) (hat26 : cl_w4.slots[((i4 - (1 : Int32))).toNatClampNeg]? = some (.int w6)) (hc15 : (0 : Int32) < i4) (hc28 : ¬ (i1 < w6)) :
    ∃ (T' : State), Stand p l e R s m args below meth c T' locs cells slots ∧ T'.heap = h0 ∧
      ∀ target, Steps p.tables e below (T'.setTop (mkF m 53 #[.val (.ref o0), .val (.int i1), s2, s3, .val (.int i4)] [])) target → Steps p.tables e below (T0.setTop (mkF m 13 #[.val (.ref o0), .val (.int i1), s2, s3, .val (.int i4)] [])) target := by
  obtain ⟨T5, X5, e5, st5⟩ := getF X0 hx hZ hown (host := "") (Or.inl (hw _ (List.mem_of_getElem? (i := 19) rfl))) Via.refl e0 F_places_o0 (g := (mkF m 19 #[.val (.ref o0), .val (.int i1), s2, s3, .val (.int i4)] [(.ref o0)])) rfl rfl (hb hby d4_19)
  refine ⟨T5, X5, e5, fun target kt => ?_⟩
  show Steps p.tables e below (T0.setTop (mkF m 13 #[.val (.ref o0), .val (.int i1), s2, s3, .val (.int i4)] [])) _
  refine XS.iload X0.here hx rfl (hb hby d4_13) rfl ?_
  show Steps p.tables e below (T0.setTop (mkF m 15 #[.val (.ref o0), .val (.int i1), s2, s3, .val (.int i4)] [(.int i4)])) _
  refine XS.ifNo X0.here hx rfl (hb hby d4_15) rfl ((if0 _ _).trans (tlt hc15).2.2.2) ?_
  show Steps p.tables e below (T0.setTop (mkF m 18 #[.val (.ref o0), .val (.int i1), s2, s3, .val (.int i4)] [])) _
  refine XS.aloadN X0.here hx rfl (hb hby d4_18) rfl rfl ?_
  show Steps p.tables e below (T0.setTop (mkF m 19 #[.val (.ref o0), .val (.int i1), s2, s3, .val (.int i4)] [(.ref o0)])) _
  refine st5 _ ?_
  show Steps p.tables e below (T5.setTop (mkF m 22 #[.val (.ref o0), .val (.int i1), s2, s3, .val (.int i4)] [(.ref w4)])) _
  refine XS.iload X5.here hx rfl (hb hby d4_22) rfl ?_
  show Steps p.tables e below (T5.setTop (mkF m 24 #[.val (.ref o0), .val (.int i1), s2, s3, .val (.int i4)] [(.int i4), (.ref w4)])) _
  refine XS.iconst X5.here hx rfl (hb hby d4_24) ?_
  show Steps p.tables e below (T5.setTop (mkF m 25 #[.val (.ref o0), .val (.int i1), s2, s3, .val (.int i4)] [(.int (1 : Int32)), (.int i4), (.ref w4)])) _
  refine XS.isub X5.here hx rfl (hb hby d4_25) rfl ?_
  show Steps p.tables e below (T5.setTop (mkF m 26 #[.val (.ref o0), .val (.int i1), s2, s3, .val (.int i4)] [(.int (i4 - (1 : Int32))), (.ref w4)])) _
  refine X5.iaload hx (j := (i4 - (1 : Int32))) (v := (.int w6)) (by rw [e5]; exact Ar_w4.1) (State.isArrayOf_alike hZ.alike Ar_w4.2.1) Ar_w4.2.2 hin26 hat26 (g := (mkF m 26 #[.val (.ref o0), .val (.int i1), s2, s3, .val (.int i4)] [(.int (i4 - (1 : Int32))), (.ref w4)])) rfl rfl (hb hby d4_26) _ ?_
  show Steps p.tables e below (T5.setTop (mkF m 27 #[.val (.ref o0), .val (.int i1), s2, s3, .val (.int i4)] [(.int w6)])) _
  refine XS.iloadN X5.here hx rfl (hb hby d4_27) rfl ?_
  show Steps p.tables e below (T5.setTop (mkF m 28 #[.val (.ref o0), .val (.int i1), s2, s3, .val (.int i4)] [(.int i1), (.int w6)])) _
  refine XS.icmpYes X5.here hx rfl (pc0 := 28) (pc' := 53) rfl (hb hby d4_28) rfl (flt hc28).2.2.2 (by decide) (by decide) ?_
  exact kt
theorem d4_31 : decode prog_8_method_5_code 31 = .ok (.aload_n 0, 1) := by decide +kernel
theorem d4_32 : decode prog_8_method_5_code 32 = .ok (.getfield 13, 3) := by decide +kernel
theorem d4_35 : decode prog_8_method_5_code 35 = .ok (.iload 4, 2) := by decide +kernel
theorem d4_37 : decode prog_8_method_5_code 37 = .ok (.aload_n 0, 1) := by decide +kernel
theorem d4_38 : decode prog_8_method_5_code 38 = .ok (.getfield 13, 3) := by decide +kernel
theorem d4_41 : decode prog_8_method_5_code 41 = .ok (.iload 4, 2) := by decide +kernel
theorem d4_43 : decode prog_8_method_5_code 43 = .ok (.iconst 1, 1) := by decide +kernel
theorem d4_44 : decode prog_8_method_5_code 44 = .ok (.isub, 1) := by decide +kernel
theorem d4_45 : decode prog_8_method_5_code 45 = .ok (.iaload, 1) := by decide +kernel
theorem d4_46 : decode prog_8_method_5_code 46 = .ok (.iastore, 1) := by decide +kernel
theorem d4_47 : decode prog_8_method_5_code 47 = .ok (.iinc 4 (-1), 3) := by decide +kernel
theorem d4_50 : decode prog_8_method_5_code 50 = .ok (.goto (-37), 3) := by decide +kernel
set_option maxRecDepth 65536 in
set_option maxHeartbeats 40000000 in
theorem tn4_13_13 {p : Program} {l : Launch} {e : Env} {R : Room} {s : State} {m : MethodId} {args : Array Value} {below : List Frame} {meth : Method} {c : Code} {T0 : State} {locs : List Loc} {cells slots : Nat} {Z : State} {a0 : Array Value} {h0 : Heap} {n0 : Nat} (o0 : Addr) (i1 : Int32) (s2 : Slot) (s3 : Slot) (i4 : Int32) (w4 : Addr) (w6 : Int32) (cl_w4 : Cell) (w9 : Int32)
    (X0 : Stand p l e R s m args below meth c T0 locs cells slots) (hx : p.tables.exec = Jvm.exec) (hZ : Z.Warmed39 s.vm) (hw : ∀ d ∈ tables_1, d.before a0 Z = true) (hby : c.code = prog_8_method_5_code) (hml : c.maxLocals = 5) (hown : s.vm.findClass "com/example/upweight/upweight/HeldTerms" = some m.cls) (e0 : T0.heap = h0) (N0 : Fr n0 locs) (Z0 : n0 ≤ h0.size) (F_places_o0 : Fld Z h0 o0 "com/example/upweight/upweight/HeldTerms" "places" "[I" (.ref w4)) (Ar_w4 : Arr Z h0 w4 cl_w4 .int) (hin26 : ¬ ((i4 - (1 : Int32)) < 0 ∨ cl_w4.slots.size ≤ ((i4 - (1 : Int32))).toNatClampNeg)) (hat26 : cl_w4.slots[((i4 - (1 : Int32))).toNatClampNeg]? = some (.int w6)) (hin45 : ¬ ((i4 - (1 : Int32)) < 0 ∨ cl_w4.slots.size ≤ ((i4 - (1 : Int32))).toNatClampNeg)) (hat45 : cl_w4.slots[((i4 - (1 : Int32))).toNatClampNeg]? = some (.int w9)) (hin46 : ¬ (i4 < 0 ∨ cl_w4.slots.size ≤ (i4).toNatClampNeg)) (g_w4 : n0 ≤ w4) (hc15 : (0 : Int32) < i4) (hc28 : i1 < w6) :
    ∃ (T' : State) (h' : Heap) (locs' : List Loc), Stand p l e R s m args below meth c T' locs' cells slots ∧ T'.heap = h' ∧ Fr n0 locs' ∧ n0 ≤ h'.size ∧ (Keep h0 h' [w4] ∧ Wr h0 h' w4 (i4).toNatClampNeg (.int w9)) ∧
      ∀ target, Steps p.tables e below (T'.setTop (mkF m 13 #[.val (.ref o0), .val (.int i1), s2, s3, .val (.int (i4 + (-1 : Int32)))] [])) target → Steps p.tables e below (T0.setTop (mkF m 13 #[.val (.ref o0), .val (.int i1), s2, s3, .val (.int i4)] [])) target := by
  obtain ⟨T5, X5, e5, st5⟩ := getF X0 hx hZ hown (host := "") (Or.inl (hw _ (List.mem_of_getElem? (i := 19) rfl))) Via.refl e0 F_places_o0 (g := (mkF m 19 #[.val (.ref o0), .val (.int i1), s2, s3, .val (.int i4)] [(.ref o0)])) rfl rfl (hb hby d4_19)
  obtain ⟨T7, X7, e7, st7⟩ := getF X5 hx hZ hown (host := "") (Or.inl (hw _ (List.mem_of_getElem? (i := 19) rfl))) Via.refl e5 F_places_o0 (g := (mkF m 32 #[.val (.ref o0), .val (.int i1), s2, s3, .val (.int i4)] [(.ref o0)])) rfl rfl (hb hby d4_32)
  obtain ⟨T8, X8, e8, st8⟩ := getF X7 hx hZ hown (host := "") (Or.inl (hw _ (List.mem_of_getElem? (i := 19) rfl))) Via.refl e7 F_places_o0 (g := (mkF m 38 #[.val (.ref o0), .val (.int i1), s2, s3, .val (.int i4)] [(.ref o0), (.int i4), (.ref w4)])) rfl rfl (hb hby d4_38)
  obtain ⟨T10, h10, X10, e10, W10, st10⟩ := stI X8 hx hZ e8 Ar_w4 (j := i4) hin46 (g := (mkF m 46 #[.val (.ref o0), .val (.int i1), s2, s3, .val (.int i4)] [(.int w9), (.int i4), (.ref w4)])) rfl rfl (hb hby d4_46)
  have N10 := Fr.snoc X10 N0 g_w4
  have K10 : Keep h0 h10 [w4] := (Keep.refl h0 [w4]).wr W10 (Or.inl (List.mem_of_getElem? (i := 0) rfl))
  refine ⟨T10, _, _, X10, e10, N10, (Nat.le_trans Z0 K10.1), ⟨K10, W10⟩, fun target kt => ?_⟩
  show Steps p.tables e below (T0.setTop (mkF m 13 #[.val (.ref o0), .val (.int i1), s2, s3, .val (.int i4)] [])) _
  refine XS.iload X0.here hx rfl (hb hby d4_13) rfl ?_
  show Steps p.tables e below (T0.setTop (mkF m 15 #[.val (.ref o0), .val (.int i1), s2, s3, .val (.int i4)] [(.int i4)])) _
  refine XS.ifNo X0.here hx rfl (hb hby d4_15) rfl ((if0 _ _).trans (tlt hc15).2.2.2) ?_
  show Steps p.tables e below (T0.setTop (mkF m 18 #[.val (.ref o0), .val (.int i1), s2, s3, .val (.int i4)] [])) _
  refine XS.aloadN X0.here hx rfl (hb hby d4_18) rfl rfl ?_
  show Steps p.tables e below (T0.setTop (mkF m 19 #[.val (.ref o0), .val (.int i1), s2, s3, .val (.int i4)] [(.ref o0)])) _
  refine st5 _ ?_
  show Steps p.tables e below (T5.setTop (mkF m 22 #[.val (.ref o0), .val (.int i1), s2, s3, .val (.int i4)] [(.ref w4)])) _
  refine XS.iload X5.here hx rfl (hb hby d4_22) rfl ?_
  show Steps p.tables e below (T5.setTop (mkF m 24 #[.val (.ref o0), .val (.int i1), s2, s3, .val (.int i4)] [(.int i4), (.ref w4)])) _
  refine XS.iconst X5.here hx rfl (hb hby d4_24) ?_
  show Steps p.tables e below (T5.setTop (mkF m 25 #[.val (.ref o0), .val (.int i1), s2, s3, .val (.int i4)] [(.int (1 : Int32)), (.int i4), (.ref w4)])) _
  refine XS.isub X5.here hx rfl (hb hby d4_25) rfl ?_
  show Steps p.tables e below (T5.setTop (mkF m 26 #[.val (.ref o0), .val (.int i1), s2, s3, .val (.int i4)] [(.int (i4 - (1 : Int32))), (.ref w4)])) _
  refine X5.iaload hx (j := (i4 - (1 : Int32))) (v := (.int w6)) (by rw [e5]; exact Ar_w4.1) (State.isArrayOf_alike hZ.alike Ar_w4.2.1) Ar_w4.2.2 hin26 hat26 (g := (mkF m 26 #[.val (.ref o0), .val (.int i1), s2, s3, .val (.int i4)] [(.int (i4 - (1 : Int32))), (.ref w4)])) rfl rfl (hb hby d4_26) _ ?_
  show Steps p.tables e below (T5.setTop (mkF m 27 #[.val (.ref o0), .val (.int i1), s2, s3, .val (.int i4)] [(.int w6)])) _
  refine XS.iloadN X5.here hx rfl (hb hby d4_27) rfl ?_
  show Steps p.tables e below (T5.setTop (mkF m 28 #[.val (.ref o0), .val (.int i1), s2, s3, .val (.int i4)] [(.int i1), (.int w6)])) _
  refine XS.icmpNo X5.here hx rfl (hb hby d4_28) rfl (tlt hc28).2.2.2 ?_
  show Steps p.tables e below (T5.setTop (mkF m 31 #[.val (.ref o0), .val (.int i1), s2, s3, .val (.int i4)] [])) _
  refine XS.aloadN X5.here hx rfl (hb hby d4_31) rfl rfl ?_
  show Steps p.tables e below (T5.setTop (mkF m 32 #[.val (.ref o0), .val (.int i1), s2, s3, .val (.int i4)] [(.ref o0)])) _
  refine st7 _ ?_
  show Steps p.tables e below (T7.setTop (mkF m 35 #[.val (.ref o0), .val (.int i1), s2, s3, .val (.int i4)] [(.ref w4)])) _
  refine XS.iload X7.here hx rfl (hb hby d4_35) rfl ?_
  show Steps p.tables e below (T7.setTop (mkF m 37 #[.val (.ref o0), .val (.int i1), s2, s3, .val (.int i4)] [(.int i4), (.ref w4)])) _
  refine XS.aloadN X7.here hx rfl (hb hby d4_37) rfl rfl ?_
  show Steps p.tables e below (T7.setTop (mkF m 38 #[.val (.ref o0), .val (.int i1), s2, s3, .val (.int i4)] [(.ref o0), (.int i4), (.ref w4)])) _
  refine st8 _ ?_
  show Steps p.tables e below (T8.setTop (mkF m 41 #[.val (.ref o0), .val (.int i1), s2, s3, .val (.int i4)] [(.ref w4), (.int i4), (.ref w4)])) _
  refine XS.iload X8.here hx rfl (hb hby d4_41) rfl ?_
  show Steps p.tables e below (T8.setTop (mkF m 43 #[.val (.ref o0), .val (.int i1), s2, s3, .val (.int i4)] [(.int i4), (.ref w4), (.int i4), (.ref w4)])) _
  refine XS.iconst X8.here hx rfl (hb hby d4_43) ?_
  show Steps p.tables e below (T8.setTop (mkF m 44 #[.val (.ref o0), .val (.int i1), s2, s3, .val (.int i4)] [(.int (1 : Int32)), (.int i4), (.ref w4), (.int i4), (.ref w4)])) _
  refine XS.isub X8.here hx rfl (hb hby d4_44) rfl ?_
  show Steps p.tables e below (T8.setTop (mkF m 45 #[.val (.ref o0), .val (.int i1), s2, s3, .val (.int i4)] [(.int (i4 - (1 : Int32))), (.ref w4), (.int i4), (.ref w4)])) _
  refine X8.iaload hx (j := (i4 - (1 : Int32))) (v := (.int w9)) (by rw [e8]; exact Ar_w4.1) (State.isArrayOf_alike hZ.alike Ar_w4.2.1) Ar_w4.2.2 hin45 hat45 (g := (mkF m 45 #[.val (.ref o0), .val (.int i1), s2, s3, .val (.int i4)] [(.int (i4 - (1 : Int32))), (.ref w4), (.int i4), (.ref w4)])) rfl rfl (hb hby d4_45) _ ?_
  show Steps p.tables e below (T8.setTop (mkF m 46 #[.val (.ref o0), .val (.int i1), s2, s3, .val (.int i4)] [(.int w9), (.int i4), (.ref w4)])) _
  refine st10 _ ?_
  show Steps p.tables e below (T10.setTop (mkF m 47 #[.val (.ref o0), .val (.int i1), s2, s3, .val (.int i4)] [])) _
  refine XS.iinc X10.here hx rfl (hb hby d4_47) rfl (l' := #[.val (.ref o0), .val (.int i1), s2, s3, .val (.int (i4 + (-1 : Int32)))]) rfl ?_
  show Steps p.tables e below (T10.setTop (mkF m 50 #[.val (.ref o0), .val (.int i1), s2, s3, .val (.int (i4 + (-1 : Int32)))] [])) _
  refine XS.goto X10.here hx rfl (pc0 := 50) (pc' := 13) rfl (hb hby d4_50) (by decide) (by decide) ?_
  exact kt
theorem d4_53 : decode prog_8_method_5_code 53 = .ok (.aload_n 0, 1) := by decide +kernel
theorem d4_54 : decode prog_8_method_5_code 54 = .ok (.getfield 13, 3) := by decide +kernel
theorem d4_57 : decode prog_8_method_5_code 57 = .ok (.iload 4, 2) := by decide +kernel
theorem d4_59 : decode prog_8_method_5_code 59 = .ok (.iload_n 1, 1) := by decide +kernel
theorem d4_60 : decode prog_8_method_5_code 60 = .ok (.iastore, 1) := by decide +kernel
theorem d4_61 : decode prog_8_method_5_code 61 = .ok (.aload_n 0, 1) := by decide +kernel
theorem d4_62 : decode prog_8_method_5_code 62 = .ok (.getfield 7, 3) := by decide +kernel
theorem d4_65 : decode prog_8_method_5_code 65 = .ok (.iload_n 1, 1) := by decide +kernel
theorem d4_66 : decode prog_8_method_5_code 66 = .ok (.lload_n 2, 1) := by decide +kernel
theorem d4_67 : decode prog_8_method_5_code 67 = .ok (.lastore, 1) := by decide +kernel
set_option maxRecDepth 65536 in
set_option maxHeartbeats 40000000 in
theorem tn4_53_68 {p : Program} {l : Launch} {e : Env} {R : Room} {s : State} {m : MethodId} {args : Array Value} {below : List Frame} {meth : Method} {c : Code} {T0 : State} {locs : List Loc} {cells slots : Nat} {Z : State} {a0 : Array Value} {h0 : Heap} {n0 : Nat} (o0 : Addr) (i1 : Int32) (j2 : Int64) (i4 : Int32) (w4 : Addr) (cl_w4 : Cell) (w7 : Addr) (cl_w7 : Cell)
    (X0 : Stand p l e R s m args below meth c T0 locs cells slots) (hx : p.tables.exec = Jvm.exec) (hZ : Z.Warmed39 s.vm) (hw : ∀ d ∈ tables_1, d.before a0 Z = true) (hby : c.code = prog_8_method_5_code) (hml : c.maxLocals = 5) (hown : s.vm.findClass "com/example/upweight/upweight/HeldTerms" = some m.cls) (e0 : T0.heap = h0) (N0 : Fr n0 locs) (Z0 : n0 ≤ h0.size) (F_places_o0 : Fld Z h0 o0 "com/example/upweight/upweight/HeldTerms" "places" "[I" (.ref w4)) (Ar_w4 : Arr Z h0 w4 cl_w4 .int) (hin60 : ¬ (i4 < 0 ∨ cl_w4.slots.size ≤ (i4).toNatClampNeg)) (g_w4 : n0 ≤ w4) (F_counts_o0 : Fld Z h0 o0 "com/example/upweight/upweight/HeldTerms" "counts" "[J" (.ref w7)) (Ar_w7 : Arr Z h0 w7 cl_w7 .long) (hin67 : ¬ (i1 < 0 ∨ cl_w7.slots.size ≤ (i1).toNatClampNeg)) (g_w7 : n0 ≤ w7) (now : o0 ≠ w4) (nwv : w7 ≠ w4) :
    ∃ (T' : State) (h' : Heap) (locs' : List Loc), Stand p l e R s m args below meth c T' locs' cells slots ∧ T'.heap = h' ∧ Fr n0 locs' ∧ n0 ≤ h'.size ∧ (Keep h0 h' [w4, w7] ∧ ∃ h1, Wr h0 h1 w4 (i4).toNatClampNeg (.int i1) ∧ Wr h1 h' w7 (i1).toNatClampNeg (.long j2)) ∧
      ∀ target, Steps p.tables e below (T'.setTop (mkF m 68 #[.val (.ref o0), .val (.int i1), .val (.long j2), .second, .val (.int i4)] [])) target → Steps p.tables e below (T0.setTop (mkF m 53 #[.val (.ref o0), .val (.int i1), .val (.long j2), .second, .val (.int i4)] [])) target := by
  obtain ⟨T5, X5, e5, st5⟩ := getF X0 hx hZ hown (host := "") (Or.inl (hw _ (List.mem_of_getElem? (i := 19) rfl))) Via.refl e0 F_places_o0 (g := (mkF m 54 #[.val (.ref o0), .val (.int i1), .val (.long j2), .second, .val (.int i4)] [(.ref o0)])) rfl rfl (hb hby d4_54)
  obtain ⟨T6, h6, X6, e6, W6, st6⟩ := stI X5 hx hZ e5 Ar_w4 (j := i4) hin60 (g := (mkF m 60 #[.val (.ref o0), .val (.int i1), .val (.long j2), .second, .val (.int i4)] [(.int i1), (.int i4), (.ref w4)])) rfl rfl (hb hby d4_60)
  have N6 := Fr.snoc X6 N0 g_w4
  have K6 : Keep h0 h6 [w4, w7] := (Keep.refl h0 [w4, w7]).wr W6 (Or.inl (List.mem_of_getElem? (i := 0) rfl))
  obtain ⟨T8, X8, e8, st8⟩ := getF X6 hx hZ hown (host := "") (Or.inl (hw _ (List.mem_of_getElem? (i := 17) rfl))) Via.refl e6 (F_counts_o0.other W6 (Or.inl now)) (g := (mkF m 62 #[.val (.ref o0), .val (.int i1), .val (.long j2), .second, .val (.int i4)] [(.ref o0)])) rfl rfl (hb hby d4_62)
  obtain ⟨T9, h9, X9, e9, W9, st9⟩ := stJ X8 hx hZ e8 (Ar_w7.other W6 nwv) (j := i1) hin67 (g := (mkF m 67 #[.val (.ref o0), .val (.int i1), .val (.long j2), .second, .val (.int i4)] [(.long j2), (.int i1), (.ref w7)])) rfl rfl (hb hby d4_67)
  have N9 := Fr.snoc X9 N6 g_w7
  have K9 : Keep h0 h9 [w4, w7] := K6.wr W9 (Or.inl (List.mem_of_getElem? (i := 1) rfl))
  refine ⟨T9, _, _, X9, e9, N9, (Nat.le_trans Z0 K9.1), ⟨K9, _, W6, W9⟩, fun target kt => ?_⟩
  show Steps p.tables e below (T0.setTop (mkF m 53 #[.val (.ref o0), .val (.int i1), .val (.long j2), .second, .val (.int i4)] [])) _
  refine XS.aloadN X0.here hx rfl (hb hby d4_53) rfl rfl ?_
  show Steps p.tables e below (T0.setTop (mkF m 54 #[.val (.ref o0), .val (.int i1), .val (.long j2), .second, .val (.int i4)] [(.ref o0)])) _
  refine st5 _ ?_
  show Steps p.tables e below (T5.setTop (mkF m 57 #[.val (.ref o0), .val (.int i1), .val (.long j2), .second, .val (.int i4)] [(.ref w4)])) _
  refine XS.iload X5.here hx rfl (hb hby d4_57) rfl ?_
  show Steps p.tables e below (T5.setTop (mkF m 59 #[.val (.ref o0), .val (.int i1), .val (.long j2), .second, .val (.int i4)] [(.int i4), (.ref w4)])) _
  refine XS.iloadN X5.here hx rfl (hb hby d4_59) rfl ?_
  show Steps p.tables e below (T5.setTop (mkF m 60 #[.val (.ref o0), .val (.int i1), .val (.long j2), .second, .val (.int i4)] [(.int i1), (.int i4), (.ref w4)])) _
  refine st6 _ ?_
  show Steps p.tables e below (T6.setTop (mkF m 61 #[.val (.ref o0), .val (.int i1), .val (.long j2), .second, .val (.int i4)] [])) _
  refine XS.aloadN X6.here hx rfl (hb hby d4_61) rfl rfl ?_
  show Steps p.tables e below (T6.setTop (mkF m 62 #[.val (.ref o0), .val (.int i1), .val (.long j2), .second, .val (.int i4)] [(.ref o0)])) _
  refine st8 _ ?_
  show Steps p.tables e below (T8.setTop (mkF m 65 #[.val (.ref o0), .val (.int i1), .val (.long j2), .second, .val (.int i4)] [(.ref w7)])) _
  refine XS.iloadN X8.here hx rfl (hb hby d4_65) rfl ?_
  show Steps p.tables e below (T8.setTop (mkF m 66 #[.val (.ref o0), .val (.int i1), .val (.long j2), .second, .val (.int i4)] [(.int i1), (.ref w7)])) _
  refine XS.lloadN X8.here hx rfl (hb hby d4_66) rfl ?_
  show Steps p.tables e below (T8.setTop (mkF m 67 #[.val (.ref o0), .val (.int i1), .val (.long j2), .second, .val (.int i4)] [(.long j2), (.int i1), (.ref w7)])) _
  refine st9 _ ?_
  exact kt

set_option maxRecDepth 65536 in
set_option maxHeartbeats 40000000 in
theorem loop4 {p : Program} {l : Launch} {e : Env} {R : Room} {s : State} {m : MethodId} {args : Array Value} {below : List Frame} {meth : Method} {c : Code} {cells slots : Nat} {Z : State} {a0 : Array Value} {n0 : Nat} (a pa : Addr) (q : Nat) (hq : q < 4) (s2 s3 : Slot) (nap : a ≠ pa) (gp : n0 ≤ pa) (hx : p.tables.exec = Jvm.exec) (hZ : Z.Warmed39 s.vm) (hw : ∀ d ∈ tables_1, d.before a0 Z = true) (hby : c.code = prog_8_method_5_code) (hml : c.maxLocals = 5) (hown : s.vm.findClass "com/example/upweight/upweight/HeldTerms" = some m.cls) :
    ∀ (k : Nat) (hk : k < 4) (f : Nat → Nat) (hf : ∀ j, f j < 4) (T0 : State) (h0 : Heap) (locs : List Loc) (X0 : Stand p l e R s m args below meth c T0 locs cells slots) (e0 : T0.heap = h0) (N0 : Fr n0 locs) (Z0 : n0 ≤ h0.size) (Fp : Fld Z h0 a "com/example/upweight/upweight/HeldTerms" "places" "[I" (.ref pa)) (V : own_AF Z h0 pa .int 4 (fun j => .int (Int32.ofNat (f j)))),
    ∃ (T' : State) (h' : Heap) (locs' : List Loc), Stand p l e R s m args below meth c T' locs' cells slots ∧ T'.heap = h' ∧ Fr n0 locs' ∧ n0 ≤ h'.size ∧ Keep h0 h' [pa] ∧ own_AF Z h' pa .int 4 (fun j => .int (Int32.ofNat ((own_sh q k f).2 j))) ∧
      ∀ target, Steps p.tables e below (T'.setTop (mkF m 53 #[.val (.ref a), .val (.int (Int32.ofNat q)), s2, s3, .val (.int (Int32.ofNat (own_sh q k f).1))] [])) target → Steps p.tables e below (T0.setTop (mkF m 13 #[.val (.ref a), .val (.int (Int32.ofNat q)), s2, s3, .val (.int (Int32.ofNat k))] [])) target := by
  intro k
  induction k with
  | zero =>
    intro hk f hf T0 h0 locs X0 e0 N0 Z0 Fp V
    obtain ⟨T1, X1, e1, st1⟩ := tn4_z (.val (.ref a)) (.val (.int (Int32.ofNat q))) s2 s3 (Int32.ofNat 0) X0 hx hZ hw hby hml hown e0 (by decide)
    exact ⟨T1, h0, locs, X1, e1, N0, Z0, Keep.refl _ _, V, st1⟩
  | succ k ih =>
    intro hk f hf T0 h0 locs X0 e0 N0 Z0 Fp V
    obtain ⟨-, cl, Ar, S, H, G⟩ := id V
    have i1 := own_sub1 k
    have hin : ¬ ((Int32.ofNat (k + 1) - (1 : Int32)) < 0 ∨ cl.slots.size ≤ ((Int32.ofNat (k + 1) - (1 : Int32))).toNatClampNeg) := by rw [i1]; exact own_inb S (by omega) (by decide)
    have hat : cl.slots[((Int32.ofNat (k + 1) - (1 : Int32))).toNatClampNeg]? = some (.int (Int32.ofNat (f k))) := by rw [i1, own_nc (by omega)]; exact H k (by omega)
    have hpos : (0 : Int32) < Int32.ofNat (k + 1) := by
      show Int32.ofNat 0 < _
      rw [own_ltn (by omega) (by omega)]; omega
    by_cases hc : q < f k
    · have hlt : Int32.ofNat q < Int32.ofNat (f k) := (own_ltn (by omega) (by have := hf k; omega)).mpr hc
      have hin2 : ¬ (Int32.ofNat (k + 1) < 0 ∨ cl.slots.size ≤ (Int32.ofNat (k + 1)).toNatClampNeg) := own_inb S (by omega) (by decide)
      obtain ⟨T1, h1, l1, X1, e1, N1, Z1, ⟨K1, W1⟩, st1⟩ := tn4_13_13 a (Int32.ofNat q) s2 s3 (Int32.ofNat (k + 1)) pa (Int32.ofNat (f k)) cl (Int32.ofNat (f k)) X0 hx hZ hw hby hml hown e0 N0 Z0 Fp Ar hin hat hin hat hin2 gp hpos hlt
      rw [own_nc (by omega)] at W1
      have V1 := own_pf V W1 (by omega)
      obtain ⟨T2, h2, l2, X2, e2, N2, Z2, K2, V2, st2⟩ := ih (by omega) (own_upd f (k + 1) (f k)) (own_updlt hf _ _ (hf k)) T1 h1 l1 X1 e1 N1 Z1 (Fp.other W1 (Or.inl nap)) V1
      have es : own_sh q (k + 1) f = own_sh q k (own_upd f (k + 1) (f k)) := by simp only [own_sh]; rw [if_pos hc]
      rw [es]
      refine ⟨T2, h2, l2, X2, e2, N2, Z2, K1.trans K2 (allS (Or.inl (List.mem_singleton.mpr rfl)) all0), V2, fun target kt => st1 target ?_⟩
      rw [own_dec1]; exact st2 target kt
    · have hlt : ¬ (Int32.ofNat q < Int32.ofNat (f k)) := by rw [own_ltn (by omega) (by have := hf k; omega)]; exact hc
      obtain ⟨T1, X1, e1, st1⟩ := tn4_le a (Int32.ofNat q) s2 s3 (Int32.ofNat (k + 1)) pa (Int32.ofNat (f k)) cl X0 hx hZ hw hby hml hown e0 Fp Ar hin hat hpos hlt
      have es : own_sh q (k + 1) f = (k + 1, f) := by simp only [own_sh]; rw [if_neg hc]
      rw [es]
      exact ⟨T1, h0, locs, X1, e1, N0, Z0, Keep.refl _ _, V, st1⟩
theorem d4_68 : decode prog_8_method_5_code 68 = .ok (.return_, 1) := by decide +kernel
theorem pn_4 : plainName "com/example/upweight/upweight/HeldTerms" = true := by first | (simp [plainName, overriddenIn]; done) | decide +kernel
theorem ef_4 (m : MethodId) (x0 : Addr) (x1 : Int32) (x2 : Int64) : entryFrame m #[(.ref x0), (.int x1), (.long x2)] 5 = mkF m 0 #[.val (.ref x0), .val (.int x1), .val (.long x2), .second, .unset] [] := by first | (simp [entryFrame, mkF, argsToLocals, Value.category]; done) | rfl

def Q4 (Z : State) (n0 : Nat) (a ca pa : Addr) (n : Nat) (f : Nat → Nat) (g : Nat → Int64) (q : Nat) (c : Int64) (h0 : Heap) (v : Option Value) (h : Heap) (L : List Loc) : Prop := v = none ∧ Fr n0 L ∧ Keep h0 h [a, pa, ca] ∧ own_HT Z n0 h a ca pa (n + 1) (own_ins q n f) (own_upd g q c)
set_option maxRecDepth 65536 in
set_option maxHeartbeats 40000000 in
theorem rm4 (l : Launch) (Z : State) (a0 : Array Value) (hw : ∀ d ∈ tables_1, d.before a0 Z = true) (ws : List Jvm.Cond) (a1 ca pa : Addr) (n : Nat) (f : Nat → Nat) (g : Nat → Int64) (q : Nat) (q3 : Int64) (h0 : Heap) (n0 : Nat) (Z0 : n0 ≤ h0.size) (HT : own_HT Z n0 h0 a1 ca pa n f g) (hn : n < 4) (hq : q < 4) :
    MetFree l (⟨"com/example/upweight/upweight/HeldTerms", "add", "(IJ)V"⟩ : MethodName) (head1 (Jvm.Cond.code (⟨"com/example/upweight/upweight/HeldTerms", "add", "(IJ)V"⟩ : MethodName) prog_8_method_5_code 5 none :: ws) ({ frames := 0, cells := 0, slots := 0, locals := 0 } : Room)) (fun a U => a = #[(.ref a1), (.int (Int32.ofNat q)), (.long q3)] ∧ Z.Warmed39 U.vm ∧ U.heap = h0) (fun _ _ _ _ _ => True) (fun _ U o U' => ∃ v L, o = .returned v ∧ Q4 Z n0 a1 ca pa n f g q q3 h0 v U'.heap L ∧ FrameEnd U o U' L ({ frames := 0, cells := 0, slots := 0, locals := 0 } : Room).cells ({ frames := 0, cells := 0, slots := 0, locals := 0 } : Room).slots) := by
  refine MetFree.of_bodySF (plainFor_of_name pn_4) hisR ?_
  intro p e s m args below meth c s₁ Bd hml0 hP hK
  obtain ⟨rfl, hZ, hh⟩ := hP
  have hx := Bd.exec
  have hby := Bd.bytes
  have hml : c.maxLocals = 5 := hml0
  have hown : s.vm.findClass "com/example/upweight/upweight/HeldTerms" = some m.cls := findClass_of_methodNamed Bd.named
  have X0 : Stand p l e ({ frames := 0, cells := 0, slots := 0, locals := 0 } : Room) s m #[(.ref a1), (.int (Int32.ofNat q)), (.long q3)] below meth c s₁ [] 0 0 := Stand.of_body Bd
  have e0 : s₁.heap = h0 := by rw [← hh, Bd.state]; rfl
  have N0 := Fr.nil n0
  obtain ⟨E, Fc, Fp, Fs, Vp, Vc, hf, nap, nac, npc, ga, gp, gc⟩ := HT
  have pre0 : ∀ t, Steps p.tables e below (s₁.setTop (mkF m 0 #[.val (.ref a1), .val (.int (Int32.ofNat q)), .val (.long q3), .second, .unset] [])) t → Steps p.tables e below (s₁.setTop (entryFrame m #[(.ref a1), (.int (Int32.ofNat q)), (.long q3)] 5)) t := fun t k => castTop (ef_4 m a1 (Int32.ofNat q) q3) k
  obtain ⟨T1, h1, l1, X1, e1, N1, Z1, ⟨K1, E1, Fs1, wv, W1⟩, st1⟩ := tn4_0_13 a1 (.val (.int (Int32.ofNat q))) (.val (.long q3)) .second .unset (Int32.ofNat n) X0 hx hZ hw hby hml hown e0 N0 Z0 Fs E ga One.u
  have Fp1 := Fp.other W1 (Or.inr (slot_ne (Or.inr (hw _ (List.mem_of_getElem? (i := 20) rfl))) (Or.inl (hw _ (List.mem_of_getElem? (i := 27) rfl))) (by decide) (t := (.array .int)) (t' := .int) (by decide) (by decide)))
  have Fc1 := Fc.other W1 (Or.inr (slot_ne (Or.inr (hw _ (List.mem_of_getElem? (i := 18) rfl))) (Or.inl (hw _ (List.mem_of_getElem? (i := 27) rfl))) (by decide) (t := (.array .long)) (t' := .int) (by decide) (by decide)))
  have Vp1 := Vp.other W1 nap.symm
  have Vc1 := Vc.other W1 nac.symm
  obtain ⟨T2, h2, l2, X2, e2, N2, Z2, K2, Vp2, st2⟩ := loop4 a1 pa q hq (.val (.long q3)) .second nap gp hx hZ hw hby hml hown n hn f hf T1 h1 l1 X1 e1 N1 Z1 Fp1 Vp1
  have hle := own_sh_le q n f
  obtain ⟨-, clp, Arp, Sp, -, -⟩ := id Vp2
  obtain ⟨-, clc, Arc, Sc, -, -⟩ := id (Vc1.keep K2 (ninS npc.symm nin0))
  have Fp2 := Fp1.keep K2 (ninS nap nin0)
  have Fc2 := Fc1.keep K2 (ninS nap nin0)
  have Fs2 := Fs1.keep K2 (ninS nap nin0)
  obtain ⟨T3, h3, l3, X3, e3, N3, Z3, ⟨K3, h4, W4, W5⟩, st3⟩ := tn4_53_68 a1 (Int32.ofNat q) q3 (Int32.ofNat (own_sh q n f).1) pa clp ca clc X2 hx hZ hw hby hml hown e2 N2 Z2 Fp2 Arp (own_inb Sp (by omega) (by decide)) gp Fc2 Arc (own_inb Sc hq (by decide)) gc nap npc.symm
  rw [own_nc (by omega)] at W4 W5
  have Vp4 := own_pf Vp2 W4 (by omega)
  have Vc4 := (Vc1.keep K2 (ninS npc.symm nin0)).other W4 npc.symm
  have Vc5 := own_cf Vc4 W5 hq
  obtain ⟨fs, hr, hrun, hended, hW, hsame⟩ := X3.leave (v := none) (fun _ => rfl)
  refine ⟨_, _, pre0 _ ?_, hrun, hended, _, _, rfl, ?_, ⟨_, rfl⟩, hW, hsame.mono (by decide) (by decide)⟩
  · exact st1 _ (st2 _ (st3 _ (X3.returnOut hx Bd.returns (hb hby d4_68) hr)))
  · show Q4 Z n0 a1 ca pa n f g q q3 h0 _ T3.heap _
    rw [e3]
    refine ⟨rfl, N3, ?_, ((E1.keep K2).wr W4).wr W5, (Fc2.other W4 (Or.inl nap)).other W5 (Or.inl nac), (Fp2.other W4 (Or.inl nap)).other W5 (Or.inl nac), ?_, Vp4.other W5 npc, Vc5, own_updlt (own_sh_lt q 4 n f hf) _ _ hq, nap, nac, npc, ga, gp, gc⟩
    · have k1 : Keep h0 h1 [a1, pa, ca] := (Keep.refl h0 _).trans K1 (allS (Or.inl (List.mem_of_getElem? (i := 0) rfl)) all0)
      have k2 : Keep h0 h2 [a1, pa, ca] := k1.trans K2 (allS (Or.inl (List.mem_of_getElem? (i := 1) rfl)) all0)
      exact k2.trans K3 (allS (Or.inl (List.mem_of_getElem? (i := 1) rfl)) (allS (Or.inl (List.mem_of_getElem? (i := 2) rfl)) all0))
    · have z := (Fs2.other W4 (Or.inl nap)).other W5 (Or.inl nac)
      rw [own_add1] at z; exact z
theorem d5_0 : decode prog_8_method_2_code 0 = .ok (.aload_n 0, 1) := by decide +kernel
theorem d5_1 : decode prog_8_method_2_code 1 = .ok (.getfield 17, 3) := by decide +kernel
theorem d5_4 : decode prog_8_method_2_code 4 = .ok (.ireturn, 1) := by decide +kernel
theorem pn_5 : plainName "com/example/upweight/upweight/HeldTerms" = true := by first | (simp [plainName, overriddenIn]; done) | decide +kernel
theorem ef_5 (m : MethodId) (x0 : Addr) : entryFrame m #[(.ref x0)] 1 = mkF m 0 #[.val (.ref x0)] [] := by first | (simp [entryFrame, mkF, argsToLocals, Value.category]; done) | rfl
def Q5 (Z : State) (a1 : Addr) (w2 : Int32) (h0 : Heap) (n0 : Nat) (v : Option Value) (h : Heap) (L : List Loc) : Prop := v = some (.int w2) ∧ Fr n0 L ∧ h = h0
set_option maxRecDepth 65536 in
set_option maxHeartbeats 40000000 in
theorem rm5 (l : Launch) (Z : State) (a0 : Array Value) (hw : ∀ d ∈ tables_1, d.before a0 Z = true) (ws : List Jvm.Cond) (a1 : Addr) (w2 : Int32) (h0 : Heap) (n0 : Nat) (Z0 : n0 ≤ h0.size) (F_size_a1 : Fld Z h0 a1 "com/example/upweight/upweight/HeldTerms" "size" "I" (.int w2)) :
    MetFree l (⟨"com/example/upweight/upweight/HeldTerms", "size", "()I"⟩ : MethodName) (head1 (Jvm.Cond.code (⟨"com/example/upweight/upweight/HeldTerms", "size", "()I"⟩ : MethodName) prog_8_method_2_code 1 (some .int) :: ws) ({ frames := 0, cells := 0, slots := 0, locals := 0 } : Room)) (fun a U => a = #[(.ref a1)] ∧ Z.Warmed39 U.vm ∧ U.heap = h0) (fun _ _ _ _ _ => True) (fun _ U o U' => ∃ v L, o = .returned v ∧ Q5 Z a1 w2 h0 n0 v U'.heap L ∧ FrameEnd U o U' L ({ frames := 0, cells := 0, slots := 0, locals := 0 } : Room).cells ({ frames := 0, cells := 0, slots := 0, locals := 0 } : Room).slots) := by
  refine MetFree.of_bodySF (plainFor_of_name pn_5) hisR ?_
  intro p e s m args below meth c s₁ Bd hml0 hP hK
  obtain ⟨rfl, hZ, hh⟩ := hP
  have hx := Bd.exec
  have hby := Bd.bytes
  have hml : c.maxLocals = 1 := hml0
  have hown : s.vm.findClass "com/example/upweight/upweight/HeldTerms" = some m.cls := findClass_of_methodNamed Bd.named
  have hnm := (name_of_methodNamed Bd.named Bd.method).1
  have X0 : Stand p l e ({ frames := 0, cells := 0, slots := 0, locals := 0 } : Room) s m #[(.ref a1)] below meth c s₁ [] 0 0 := Stand.of_body Bd
  have e0 : s₁.heap = h0 := by rw [← hh, Bd.state]; rfl
  have N0 := Fr.nil n0
  have pre0 : ∀ t, Steps p.tables e below (s₁.setTop (mkF m 0 #[.val (.ref a1)] [])) t → Steps p.tables e below (s₁.setTop (entryFrame m #[(.ref a1)] 1)) t := fun t k => castTop (ef_5 m a1) k
  obtain ⟨T3, X3, e3, st3⟩ := getF X0 hx hZ hown (host := "") (Or.inl (hw _ (List.mem_of_getElem? (i := 26) rfl))) Via.refl e0 F_size_a1 (g := (mkF m 1 #[.val (.ref a1)] [(.ref a1)])) rfl rfl (hb hby d5_1)
  obtain ⟨fs, hr, hrun, hended, hW, hsame⟩ := X3.leave (v := some (.int w2)) (fun h => by rw [Bd.returns] at h; cases h)
  refine ⟨_, _, pre0 _ ?_, hrun, hended, _, _, rfl, ?_, ⟨_, rfl⟩, hW, hsame.mono (by decide) (by decide)⟩
  · show Steps p.tables e below (s₁.setTop (mkF m 0 #[.val (.ref a1)] [])) _
    refine XS.aloadN X0.here hx rfl (hb hby d5_0) rfl rfl ?_
    show Steps p.tables e below (s₁.setTop (mkF m 1 #[.val (.ref a1)] [(.ref a1)])) _
    refine st3 _ ?_
    show Steps p.tables e below (T3.setTop (mkF m 4 #[.val (.ref a1)] [(.int w2)])) _
    exact retI X3 hx Bd.returns (hb hby d5_4) hr
  · show Q5 Z a1 w2 h0 n0 _ T3.heap _
    rw [e3]
    exact ⟨rfl, N0, rfl⟩
theorem d6_0 : decode prog_8_method_3_code 0 = .ok (.aload_n 0, 1) := by decide +kernel
theorem d6_1 : decode prog_8_method_3_code 1 = .ok (.getfield 13, 3) := by decide +kernel
theorem d6_4 : decode prog_8_method_3_code 4 = .ok (.iload_n 1, 1) := by decide +kernel
theorem d6_5 : decode prog_8_method_3_code 5 = .ok (.iaload, 1) := by decide +kernel
theorem d6_6 : decode prog_8_method_3_code 6 = .ok (.ireturn, 1) := by decide +kernel
theorem pn_6 : plainName "com/example/upweight/upweight/HeldTerms" = true := by first | (simp [plainName, overriddenIn]; done) | decide +kernel
theorem ef_6 (m : MethodId) (x0 : Addr) (x1 : Int32) : entryFrame m #[(.ref x0), (.int x1)] 2 = mkF m 0 #[.val (.ref x0), .val (.int x1)] [] := by first | (simp [entryFrame, mkF, argsToLocals, Value.category]; done) | rfl
def Q6 (Z : State) (a1 : Addr) (p2 : Int32) (w3 : Addr) (w5 : Int32) (cl_w3 : Cell) (h0 : Heap) (n0 : Nat) (v : Option Value) (h : Heap) (L : List Loc) : Prop := v = some (.int w5) ∧ Fr n0 L ∧ h = h0
set_option maxRecDepth 65536 in
set_option maxHeartbeats 40000000 in
theorem rm6 (l : Launch) (Z : State) (a0 : Array Value) (hw : ∀ d ∈ tables_1, d.before a0 Z = true) (ws : List Jvm.Cond) (a1 : Addr) (p2 : Int32) (w3 : Addr) (w5 : Int32) (cl_w3 : Cell) (h0 : Heap) (n0 : Nat) (Z0 : n0 ≤ h0.size) (F_places_a1 : Fld Z h0 a1 "com/example/upweight/upweight/HeldTerms" "places" "[I" (.ref w3)) (Ar_w3 : Arr Z h0 w3 cl_w3 .int) (hin5 : ¬ (p2 < 0 ∨ cl_w3.slots.size ≤ (p2).toNatClampNeg)) (hat5 : cl_w3.slots[(p2).toNatClampNeg]? = some (.int w5)) :
    MetFree l (⟨"com/example/upweight/upweight/HeldTerms", "place", "(I)I"⟩ : MethodName) (head1 (Jvm.Cond.code (⟨"com/example/upweight/upweight/HeldTerms", "place", "(I)I"⟩ : MethodName) prog_8_method_3_code 2 (some .int) :: ws) ({ frames := 0, cells := 0, slots := 0, locals := 0 } : Room)) (fun a U => a = #[(.ref a1), (.int p2)] ∧ Z.Warmed39 U.vm ∧ U.heap = h0) (fun _ _ _ _ _ => True) (fun _ U o U' => ∃ v L, o = .returned v ∧ Q6 Z a1 p2 w3 w5 cl_w3 h0 n0 v U'.heap L ∧ FrameEnd U o U' L ({ frames := 0, cells := 0, slots := 0, locals := 0 } : Room).cells ({ frames := 0, cells := 0, slots := 0, locals := 0 } : Room).slots) := by
  refine MetFree.of_bodySF (plainFor_of_name pn_6) hisR ?_
  intro p e s m args below meth c s₁ Bd hml0 hP hK
  obtain ⟨rfl, hZ, hh⟩ := hP
  have hx := Bd.exec
  have hby := Bd.bytes
  have hml : c.maxLocals = 2 := hml0
  have hown : s.vm.findClass "com/example/upweight/upweight/HeldTerms" = some m.cls := findClass_of_methodNamed Bd.named
  have hnm := (name_of_methodNamed Bd.named Bd.method).1
  have X0 : Stand p l e ({ frames := 0, cells := 0, slots := 0, locals := 0 } : Room) s m #[(.ref a1), (.int p2)] below meth c s₁ [] 0 0 := Stand.of_body Bd
  have e0 : s₁.heap = h0 := by rw [← hh, Bd.state]; rfl
  have N0 := Fr.nil n0
  have pre0 : ∀ t, Steps p.tables e below (s₁.setTop (mkF m 0 #[.val (.ref a1), .val (.int p2)] [])) t → Steps p.tables e below (s₁.setTop (entryFrame m #[(.ref a1), (.int p2)] 2)) t := fun t k => castTop (ef_6 m a1 p2) k
  obtain ⟨T4, X4, e4, st4⟩ := getF X0 hx hZ hown (host := "") (Or.inl (hw _ (List.mem_of_getElem? (i := 19) rfl))) Via.refl e0 F_places_a1 (g := (mkF m 1 #[.val (.ref a1), .val (.int p2)] [(.ref a1)])) rfl rfl (hb hby d6_1)
  obtain ⟨fs, hr, hrun, hended, hW, hsame⟩ := X4.leave (v := some (.int w5)) (fun h => by rw [Bd.returns] at h; cases h)
  refine ⟨_, _, pre0 _ ?_, hrun, hended, _, _, rfl, ?_, ⟨_, rfl⟩, hW, hsame.mono (by decide) (by decide)⟩
  · show Steps p.tables e below (s₁.setTop (mkF m 0 #[.val (.ref a1), .val (.int p2)] [])) _
    refine XS.aloadN X0.here hx rfl (hb hby d6_0) rfl rfl ?_
    show Steps p.tables e below (s₁.setTop (mkF m 1 #[.val (.ref a1), .val (.int p2)] [(.ref a1)])) _
    refine st4 _ ?_
    show Steps p.tables e below (T4.setTop (mkF m 4 #[.val (.ref a1), .val (.int p2)] [(.ref w3)])) _
    refine XS.iloadN X4.here hx rfl (hb hby d6_4) rfl ?_
    show Steps p.tables e below (T4.setTop (mkF m 5 #[.val (.ref a1), .val (.int p2)] [(.int p2), (.ref w3)])) _
    refine X4.iaload hx (j := p2) (v := (.int w5)) (by rw [e4]; exact Ar_w3.1) (State.isArrayOf_alike hZ.alike Ar_w3.2.1) Ar_w3.2.2 hin5 hat5 (g := (mkF m 5 #[.val (.ref a1), .val (.int p2)] [(.int p2), (.ref w3)])) rfl rfl (hb hby d6_5) _ ?_
    show Steps p.tables e below (T4.setTop (mkF m 6 #[.val (.ref a1), .val (.int p2)] [(.int w5)])) _
    exact retI X4 hx Bd.returns (hb hby d6_6) hr
  · show Q6 Z a1 p2 w3 w5 cl_w3 h0 n0 _ T4.heap _
    rw [e4]
    exact ⟨rfl, N0, rfl⟩
theorem d7_0 : decode prog_8_method_4_code 0 = .ok (.aload_n 0, 1) := by decide +kernel
theorem d7_1 : decode prog_8_method_4_code 1 = .ok (.getfield 7, 3) := by decide +kernel
theorem d7_4 : decode prog_8_method_4_code 4 = .ok (.iload_n 1, 1) := by decide +kernel
theorem d7_5 : decode prog_8_method_4_code 5 = .ok (.laload, 1) := by decide +kernel
theorem d7_6 : decode prog_8_method_4_code 6 = .ok (.lreturn, 1) := by decide +kernel
theorem pn_7 : plainName "com/example/upweight/upweight/HeldTerms" = true := by first | (simp [plainName, overriddenIn]; done) | decide +kernel
theorem ef_7 (m : MethodId) (x0 : Addr) (x1 : Int32) : entryFrame m #[(.ref x0), (.int x1)] 2 = mkF m 0 #[.val (.ref x0), .val (.int x1)] [] := by first | (simp [entryFrame, mkF, argsToLocals, Value.category]; done) | rfl
def Q7 (Z : State) (a1 : Addr) (p2 : Int32) (w3 : Addr) (w5 : Int64) (cl_w3 : Cell) (h0 : Heap) (n0 : Nat) (v : Option Value) (h : Heap) (L : List Loc) : Prop := v = some (.long w5) ∧ Fr n0 L ∧ h = h0
set_option maxRecDepth 65536 in
set_option maxHeartbeats 40000000 in
theorem rm7 (l : Launch) (Z : State) (a0 : Array Value) (hw : ∀ d ∈ tables_1, d.before a0 Z = true) (ws : List Jvm.Cond) (a1 : Addr) (p2 : Int32) (w3 : Addr) (w5 : Int64) (cl_w3 : Cell) (h0 : Heap) (n0 : Nat) (Z0 : n0 ≤ h0.size) (F_counts_a1 : Fld Z h0 a1 "com/example/upweight/upweight/HeldTerms" "counts" "[J" (.ref w3)) (Ar_w3 : Arr Z h0 w3 cl_w3 .long) (hin5 : ¬ (p2 < 0 ∨ cl_w3.slots.size ≤ (p2).toNatClampNeg)) (hat5 : cl_w3.slots[(p2).toNatClampNeg]? = some (.long w5)) :
    MetFree l (⟨"com/example/upweight/upweight/HeldTerms", "count", "(I)J"⟩ : MethodName) (head1 (Jvm.Cond.code (⟨"com/example/upweight/upweight/HeldTerms", "count", "(I)J"⟩ : MethodName) prog_8_method_4_code 2 (some .long) :: ws) ({ frames := 0, cells := 0, slots := 0, locals := 0 } : Room)) (fun a U => a = #[(.ref a1), (.int p2)] ∧ Z.Warmed39 U.vm ∧ U.heap = h0) (fun _ _ _ _ _ => True) (fun _ U o U' => ∃ v L, o = .returned v ∧ Q7 Z a1 p2 w3 w5 cl_w3 h0 n0 v U'.heap L ∧ FrameEnd U o U' L ({ frames := 0, cells := 0, slots := 0, locals := 0 } : Room).cells ({ frames := 0, cells := 0, slots := 0, locals := 0 } : Room).slots) := by
  refine MetFree.of_bodySF (plainFor_of_name pn_7) hisR ?_
  intro p e s m args below meth c s₁ Bd hml0 hP hK
  obtain ⟨rfl, hZ, hh⟩ := hP
  have hx := Bd.exec
  have hby := Bd.bytes
  have hml : c.maxLocals = 2 := hml0
  have hown : s.vm.findClass "com/example/upweight/upweight/HeldTerms" = some m.cls := findClass_of_methodNamed Bd.named
  have hnm := (name_of_methodNamed Bd.named Bd.method).1
  have X0 : Stand p l e ({ frames := 0, cells := 0, slots := 0, locals := 0 } : Room) s m #[(.ref a1), (.int p2)] below meth c s₁ [] 0 0 := Stand.of_body Bd
  have e0 : s₁.heap = h0 := by rw [← hh, Bd.state]; rfl
  have N0 := Fr.nil n0
  have pre0 : ∀ t, Steps p.tables e below (s₁.setTop (mkF m 0 #[.val (.ref a1), .val (.int p2)] [])) t → Steps p.tables e below (s₁.setTop (entryFrame m #[(.ref a1), (.int p2)] 2)) t := fun t k => castTop (ef_7 m a1 p2) k
  obtain ⟨T4, X4, e4, st4⟩ := getF X0 hx hZ hown (host := "") (Or.inl (hw _ (List.mem_of_getElem? (i := 17) rfl))) Via.refl e0 F_counts_a1 (g := (mkF m 1 #[.val (.ref a1), .val (.int p2)] [(.ref a1)])) rfl rfl (hb hby d7_1)
  obtain ⟨fs, hr, hrun, hended, hW, hsame⟩ := X4.leave (v := some (.long w5)) (fun h => by rw [Bd.returns] at h; cases h)
  refine ⟨_, _, pre0 _ ?_, hrun, hended, _, _, rfl, ?_, ⟨_, rfl⟩, hW, hsame.mono (by decide) (by decide)⟩
  · show Steps p.tables e below (s₁.setTop (mkF m 0 #[.val (.ref a1), .val (.int p2)] [])) _
    refine XS.aloadN X0.here hx rfl (hb hby d7_0) rfl rfl ?_
    show Steps p.tables e below (s₁.setTop (mkF m 1 #[.val (.ref a1), .val (.int p2)] [(.ref a1)])) _
    refine st4 _ ?_
    show Steps p.tables e below (T4.setTop (mkF m 4 #[.val (.ref a1), .val (.int p2)] [(.ref w3)])) _
    refine XS.iloadN X4.here hx rfl (hb hby d7_4) rfl ?_
    show Steps p.tables e below (T4.setTop (mkF m 5 #[.val (.ref a1), .val (.int p2)] [(.int p2), (.ref w3)])) _
    refine X4.laload hx (j := p2) (v := (.long w5)) (by rw [e4]; exact Ar_w3.1) (State.isArrayOf_alike hZ.alike Ar_w3.2.1) Ar_w3.2.2 hin5 hat5 (g := (mkF m 5 #[.val (.ref a1), .val (.int p2)] [(.int p2), (.ref w3)])) rfl rfl (hb hby d7_5) _ ?_
    show Steps p.tables e below (T4.setTop (mkF m 6 #[.val (.ref a1), .val (.int p2)] [(.long w5)])) _
    exact own_retL X4 hx Bd.returns (hb hby d7_6) hr
  · show Q7 Z a1 p2 w3 w5 cl_w3 h0 n0 _ T4.heap _
    rw [e4]
    exact ⟨rfl, N0, rfl⟩
theorem d1_0 : decode method_2_code 0 = .ok (.lload_n 0, 1) := by decide +kernel
theorem d1_1 : decode method_2_code 1 = .ok (.ldc2_w 9, 3) := by decide +kernel
theorem d1_4 : decode method_2_code 4 = .ok (.land, 1) := by decide +kernel
theorem d1_5 : decode method_2_code 5 = .ok (.ldc2_w 9, 3) := by decide +kernel
theorem d1_8 : decode method_2_code 8 = .ok (.lrem, 1) := by decide +kernel
theorem d1_9 : decode method_2_code 9 = .ok (.lconst 1, 1) := by decide +kernel
theorem d1_10 : decode method_2_code 10 = .ok (.ladd, 1) := by decide +kernel
theorem d1_11 : decode method_2_code 11 = .ok (.lreturn, 1) := by decide +kernel
theorem pn_1 : plainName "com/example/upweight/upweight/HeldTermsAddPinLaw" = true := by first | (simp [plainName, overriddenIn]; done) | decide +kernel
theorem ef_1 (m : MethodId) (x0 : Int64) : entryFrame m #[(.long x0)] 2 = mkF m 0 #[.val (.long x0), .second] [] := by first | (simp [entryFrame, mkF, argsToLocals, Value.category]; done) | rfl
def Q1a (Z : State) (q1 : Int64) (h0 : Heap) (n0 : Nat) (v : Option Value) (h : Heap) (L : List Loc) : Prop := v = some (.long (((q1 &&& (9223372036854775807 : Int64)) % (9223372036854775807 : Int64)) + (1 : Int64))) ∧ Fr n0 L ∧ h = h0
set_option maxRecDepth 65536 in
set_option maxHeartbeats 40000000 in
theorem rm1a (l : Launch) (Z : State) (a0 : Array Value) (hw : ∀ d ∈ tables_1, d.before a0 Z = true) (ws : List Jvm.Cond) (q1 : Int64) (h0 : Heap) (n0 : Nat) (Z0 : n0 ≤ h0.size) (hnz8 : ¬ ((9223372036854775807 : Int64) = (0 : Int64))) :
    MetFree l (⟨"com/example/upweight/upweight/HeldTermsAddPinLaw", "positive", "(J)J"⟩ : MethodName) (head1 (Jvm.Cond.code (⟨"com/example/upweight/upweight/HeldTermsAddPinLaw", "positive", "(J)J"⟩ : MethodName) method_2_code 2 (some .long) :: ws) ({ frames := 0, cells := 0, slots := 0, locals := 0 } : Room)) (fun a U => a = #[(.long q1)] ∧ Z.Warmed39 U.vm ∧ U.heap = h0) (fun _ _ _ _ _ => True) (fun _ U o U' => ∃ v L, o = .returned v ∧ Q1a Z q1 h0 n0 v U'.heap L ∧ FrameEnd U o U' L ({ frames := 0, cells := 0, slots := 0, locals := 0 } : Room).cells ({ frames := 0, cells := 0, slots := 0, locals := 0 } : Room).slots) := by
  refine MetFree.of_bodySF (plainFor_of_name pn_1) hisR ?_
  intro p e s m args below meth c s₁ Bd hml0 hP hK
  obtain ⟨rfl, hZ, hh⟩ := hP
  have hx := Bd.exec
  have hby := Bd.bytes
  have hml : c.maxLocals = 2 := hml0
  have hown : s.vm.findClass "com/example/upweight/upweight/HeldTermsAddPinLaw" = some m.cls := findClass_of_methodNamed Bd.named
  have hnm := (name_of_methodNamed Bd.named Bd.method).1
  have X0 : Stand p l e ({ frames := 0, cells := 0, slots := 0, locals := 0 } : Room) s m #[(.long q1)] below meth c s₁ [] 0 0 := Stand.of_body Bd
  have e0 : s₁.heap = h0 := by rw [← hh, Bd.state]; rfl
  have N0 := Fr.nil n0
  have pre0 : ∀ t, Steps p.tables e below (s₁.setTop (mkF m 0 #[.val (.long q1), .second] [])) t → Steps p.tables e below (s₁.setTop (entryFrame m #[(.long q1)] 2)) t := fun t k => castTop (ef_1 m q1) k

  obtain ⟨fs, hr, hrun, hended, hW, hsame⟩ := X0.leave (v := some (.long (((q1 &&& (9223372036854775807 : Int64)) % (9223372036854775807 : Int64)) + (1 : Int64)))) (fun h => by rw [Bd.returns] at h; cases h)
  refine ⟨_, _, pre0 _ ?_, hrun, hended, _, _, rfl, ?_, ⟨_, rfl⟩, hW, hsame.mono (by decide) (by decide)⟩
  · show Steps p.tables e below (s₁.setTop (mkF m 0 #[.val (.long q1), .second] [])) _
    refine XS.lloadN X0.here hx rfl (hb hby d1_0) rfl ?_
    show Steps p.tables e below (s₁.setTop (mkF m 1 #[.val (.long q1), .second] [(.long q1)])) _
    refine X0.ldc2Long hx hown (mvT hZ (hw _ (List.mem_of_getElem? (i := 6) rfl))) (g := (mkF m 1 #[.val (.long q1), .second] [(.long q1)])) rfl (hb hby d1_1) _ ?_
    show Steps p.tables e below (s₁.setTop (mkF m 4 #[.val (.long q1), .second] [(.long (9223372036854775807 : Int64)), (.long q1)])) _
    refine XS.land X0.here hx rfl (hb hby d1_4) rfl ?_
    show Steps p.tables e below (s₁.setTop (mkF m 5 #[.val (.long q1), .second] [(.long (q1 &&& (9223372036854775807 : Int64)))])) _
    refine X0.ldc2Long hx hown (mvT hZ (hw _ (List.mem_of_getElem? (i := 6) rfl))) (g := (mkF m 5 #[.val (.long q1), .second] [(.long (q1 &&& (9223372036854775807 : Int64)))])) rfl (hb hby d1_5) _ ?_
    show Steps p.tables e below (s₁.setTop (mkF m 8 #[.val (.long q1), .second] [(.long (9223372036854775807 : Int64)), (.long (q1 &&& (9223372036854775807 : Int64)))])) _
    refine own_lrem X0.here hx rfl (hb hby d1_8) rfl hnz8 ?_
    show Steps p.tables e below (s₁.setTop (mkF m 9 #[.val (.long q1), .second] [(.long ((q1 &&& (9223372036854775807 : Int64)) % (9223372036854775807 : Int64)))])) _
    refine XS.lconst X0.here hx rfl (hb hby d1_9) ?_
    show Steps p.tables e below (s₁.setTop (mkF m 10 #[.val (.long q1), .second] [(.long (1 : Int64)), (.long ((q1 &&& (9223372036854775807 : Int64)) % (9223372036854775807 : Int64)))])) _
    refine XS.ladd X0.here hx rfl (hb hby d1_10) rfl ?_
    show Steps p.tables e below (s₁.setTop (mkF m 11 #[.val (.long q1), .second] [(.long (((q1 &&& (9223372036854775807 : Int64)) % (9223372036854775807 : Int64)) + (1 : Int64)))])) _
    exact own_retL X0 hx Bd.returns (hb hby d1_11) hr
  · show Q1a Z q1 h0 n0 _ s₁.heap _
    rw [e0]
    exact ⟨rfl, N0, rfl⟩
def own_f1 (q1 : Int64) : Int64 := (((q1 &&& (9223372036854775807 : Int64)) % (9223372036854775807 : Int64)) + (1 : Int64))
theorem rm1 (l : Launch) (Z : State) (a0 : Array Value) (hw : ∀ d ∈ tables_1, d.before a0 Z = true) (ws : List Jvm.Cond) (q1 : Int64) (h0 : Heap) (n0 : Nat) (Z0 : n0 ≤ h0.size) :
    MetFree l (⟨"com/example/upweight/upweight/HeldTermsAddPinLaw", "positive", "(J)J"⟩ : MethodName) (head1 (Jvm.Cond.code (⟨"com/example/upweight/upweight/HeldTermsAddPinLaw", "positive", "(J)J"⟩ : MethodName) method_2_code 2 (some .long) :: ws) ({ frames := 0, cells := 0, slots := 0, locals := 0 } : Room)) (fun a U => a = #[(.long q1)] ∧ Z.Warmed39 U.vm ∧ U.heap = h0) (fun _ _ _ _ _ => True) (fun _ U o U' => ∃ v L, o = .returned v ∧ own_Qr h0 n0 (.long (own_f1 q1)) v U'.heap L ∧ FrameEnd U o U' L ({ frames := 0, cells := 0, slots := 0, locals := 0 } : Room).cells ({ frames := 0, cells := 0, slots := 0, locals := 0 } : Room).slots) := by
  unfold own_f1
  exact rm1a l Z a0 hw ws q1 h0 n0 Z0 (by decide)
theorem own_cnt (l : Launch) (Z : State) (a0 : Array Value) (hw : ∀ d ∈ tables_1, d.before a0 Z = true) (ws : List Jvm.Cond) (a1 ca pa : Addr) (n : Nat) (f : Nat → Nat) (g : Nat → Int64) (i : Nat) (hi : i < 4) (h0 : Heap) (n0 : Nat) (Z0 : n0 ≤ h0.size) (HT : own_HT Z n0 h0 a1 ca pa n f g) :
    MetFree l (⟨"com/example/upweight/upweight/HeldTerms", "count", "(I)J"⟩ : MethodName) (head1 (Jvm.Cond.code (⟨"com/example/upweight/upweight/HeldTerms", "count", "(I)J"⟩ : MethodName) prog_8_method_4_code 2 (some .long) :: ws) ({ frames := 0, cells := 0, slots := 0, locals := 0 } : Room)) (fun a U => a = #[(.ref a1), (.int (Int32.ofNat i))] ∧ Z.Warmed39 U.vm ∧ U.heap = h0) (fun _ _ _ _ _ => True) (fun _ U o U' => ∃ v L, o = .returned v ∧ own_Qr h0 n0 (.long (g i)) v U'.heap L ∧ FrameEnd U o U' L ({ frames := 0, cells := 0, slots := 0, locals := 0 } : Room).cells ({ frames := 0, cells := 0, slots := 0, locals := 0 } : Room).slots) := by
  obtain ⟨-, cl, Ar, S, H, -⟩ := id HT.2.2.2.2.2.1
  exact rm7 l Z a0 hw ws a1 (Int32.ofNat i) ca (g i) cl h0 n0 Z0 HT.2.1 Ar (own_inb S hi (by decide)) (by rw [own_nc (by omega)]; exact H i hi)
theorem own_plc (l : Launch) (Z : State) (a0 : Array Value) (hw : ∀ d ∈ tables_1, d.before a0 Z = true) (ws : List Jvm.Cond) (a1 ca pa : Addr) (n : Nat) (f : Nat → Nat) (g : Nat → Int64) (i : Nat) (hi : i < 4) (h0 : Heap) (n0 : Nat) (Z0 : n0 ≤ h0.size) (HT : own_HT Z n0 h0 a1 ca pa n f g) :
    MetFree l (⟨"com/example/upweight/upweight/HeldTerms", "place", "(I)I"⟩ : MethodName) (head1 (Jvm.Cond.code (⟨"com/example/upweight/upweight/HeldTerms", "place", "(I)I"⟩ : MethodName) prog_8_method_3_code 2 (some .int) :: ws) ({ frames := 0, cells := 0, slots := 0, locals := 0 } : Room)) (fun a U => a = #[(.ref a1), (.int (Int32.ofNat i))] ∧ Z.Warmed39 U.vm ∧ U.heap = h0) (fun _ _ _ _ _ => True) (fun _ U o U' => ∃ v L, o = .returned v ∧ own_Qr h0 n0 (.int (Int32.ofNat (f i))) v U'.heap L ∧ FrameEnd U o U' L ({ frames := 0, cells := 0, slots := 0, locals := 0 } : Room).cells ({ frames := 0, cells := 0, slots := 0, locals := 0 } : Room).slots) := by
  obtain ⟨-, cl, Ar, S, H, -⟩ := id HT.2.2.2.2.1
  exact rm6 l Z a0 hw ws a1 (Int32.ofNat i) pa (Int32.ofNat (f i)) cl h0 n0 Z0 HT.2.2.1 Ar (own_inb S hi (by decide)) (by rw [own_nc (by omega)]; exact H i hi)

def own_perm (j : Nat) : Nat := ([0, 1, 2, 0, 2, 1, 1, 0, 2, 1, 2, 0, 2, 0, 1, 2, 1, 0] : List Nat).getD j 0
def own_lo (M : Nat) : Nat := if M = 0 then 1 else 0
def own_mid (M : Nat) : Nat := if M ≤ 1 then 2 else 1
def own_hi (M : Nat) : Nat := if M ≤ 2 then 3 else 2
def own_srt (M j : Nat) : Nat := if j = 0 then own_lo M else if j = 1 then own_mid M else own_hi M
def own_p (M Q i : Nat) : Nat := own_srt M (own_perm (3 * Q + i))
theorem own_plt : ∀ M, M < 4 → ∀ Q, Q < 6 → ∀ i, i < 3 → own_p M Q i < 4 ∧ own_perm (3 * Q + i) < 3 := by decide
theorem own_dist : ∀ M, M < 4 → ∀ Q, Q < 6 → own_p M Q 0 ≠ own_p M Q 1 ∧ own_p M Q 0 ≠ own_p M Q 2 ∧ own_p M Q 1 ≠ own_p M Q 2 ∧ own_p M Q 0 ≠ M ∧ own_p M Q 1 ≠ M ∧ own_p M Q 2 ≠ M := by decide
def own_all (M Q : Nat) : Nat → Nat := own_ins (own_p M Q 2) 2 (own_ins (own_p M Q 1) 1 (own_ins (own_p M Q 0) 0 (fun _ => 0)))
theorem own_sorted : ∀ M, M < 4 → ∀ Q, Q < 6 → own_all M Q 0 = own_lo M ∧ own_all M Q 1 = own_mid M ∧ own_all M Q 2 = own_hi M := by decide
theorem own_mask (x : Int32) : ∃ M : Nat, M < 4 ∧ (x &&& (3 : Int32)) = Int32.ofNat M := by
  refine ⟨(x &&& 3).toBitVec.toNat, ?_, ?_⟩
  · show (x.toBitVec &&& 3#32).toNat < 4
    rw [BitVec.toNat_and]
    exact Nat.lt_of_le_of_lt Nat.and_le_right (by decide)
  · apply Int32.toBitVec_inj.mp
    show _ = BitVec.ofNat 32 _
    rw [BitVec.ofNat_toNat, BitVec.setWidth_eq]
theorem own_rem (x : Int32) : ∃ Q : Nat, Q < 6 ∧ ((x &&& (2147483647 : Int32)) % (6 : Int32)) = Int32.ofNat Q := by
  have h0 : 0 ≤ (x &&& (2147483647 : Int32)).toInt := by
    have h : (x &&& (2147483647 : Int32)).toBitVec.msb = false := by
      show (x.toBitVec &&& 2147483647#32).msb = false
      rw [BitVec.msb_and]
      have : (2147483647#32).msb = false := by decide
      rw [this, Bool.and_false]
    show 0 ≤ (x &&& (2147483647 : Int32)).toBitVec.toInt
    rw [BitVec.toInt_eq_msb_cond, h]; simp
  have h1 := (c_irem (x &&& (2147483647 : Int32)) 6 6 (by decide)).1 h0
  refine ⟨((x &&& (2147483647 : Int32)) % (6 : Int32)).toInt.toNat, by omega, ?_⟩
  apply Int32.toInt_inj.mp
  rw [own_ti (by omega)]; omega
theorem own_mul3 (Q : Nat) : (3 : Int32) * Int32.ofNat Q = Int32.ofNat (3 * Q) := (Int32.ofNat_mul 3 Q).symm
theorem own_mul3a (Q k : Nat) : ((3 : Int32) * Int32.ofNat Q) + Int32.ofNat k = Int32.ofNat (3 * Q + k) := by rw [own_mul3]; exact (Int32.ofNat_add _ _).symm
theorem os0_3 {z0 : Value} {s1 : Slot} {s2 : Slot} {s3 : Slot} {s4 : Slot} {s5 : Slot} {s6 : Slot} {s7 : Slot} {s8 : Slot} {s9 : Slot} {s10 : Slot} {s11 : Slot} {s12 : Slot} {s13 : Slot} {s14 : Slot} {s15 : Slot} {s16 : Slot} {s17 : Slot} {s18 : Slot} {s19 : Slot} {s20 : Slot} {s21 : Slot} {s22 : Slot} {s23 : Slot} {s24 : Slot} {v : Int32} (h : One s8) : storeLocals #[.val z0, s1, s2, s3, s4, s5, s6, s7, s8, s9, s10, s11, s12, s13, s14, s15, s16, s17, s18, s19, s20, s21, s22, s23, s24] 8 (.int v) = some #[.val z0, s1, s2, s3, s4, s5, s6, s7, .val (.int v), s9, s10, s11, s12, s13, s14, s15, s16, s17, s18, s19, s20, s21, s22, s23, s24] := by
  rcases h with rfl | ⟨w, rfl, hw⟩
  · rfl
  · cases w <;> first | rfl | (simp [Value.category] at hw)
theorem os0_15 {z0 : Value} {s1 : Slot} {s2 : Slot} {s3 : Slot} {s4 : Slot} {s5 : Slot} {s6 : Slot} {s7 : Slot} {z8 : Value} {s9 : Slot} {s10 : Slot} {s11 : Slot} {s12 : Slot} {s13 : Slot} {s14 : Slot} {s15 : Slot} {s16 : Slot} {s17 : Slot} {s18 : Slot} {s19 : Slot} {s20 : Slot} {s21 : Slot} {s22 : Slot} {s23 : Slot} {s24 : Slot} {v : Int32} (h : One s9) : storeLocals #[.val z0, s1, s2, s3, s4, s5, s6, s7, .val z8, s9, s10, s11, s12, s13, s14, s15, s16, s17, s18, s19, s20, s21, s22, s23, s24] 9 (.int v) = some #[.val z0, s1, s2, s3, s4, s5, s6, s7, .val z8, .val (.int v), s10, s11, s12, s13, s14, s15, s16, s17, s18, s19, s20, s21, s22, s23, s24] := by
  rcases h with rfl | ⟨w, rfl, hw⟩
  · rfl
  · cases w <;> first | rfl | (simp [Value.category] at hw)
theorem os0_28 {z0 : Value} {s1 : Slot} {s2 : Slot} {s3 : Slot} {s4 : Slot} {s5 : Slot} {s6 : Slot} {s7 : Slot} {z8 : Value} {z9 : Value} {s10 : Slot} {s11 : Slot} {s12 : Slot} {s13 : Slot} {s14 : Slot} {s15 : Slot} {s16 : Slot} {s17 : Slot} {s18 : Slot} {s19 : Slot} {s20 : Slot} {s21 : Slot} {s22 : Slot} {s23 : Slot} {s24 : Slot} {v : Int32} (h : One s10) : storeLocals #[.val z0, s1, s2, s3, s4, s5, s6, s7, .val z8, .val z9, s10, s11, s12, s13, s14, s15, s16, s17, s18, s19, s20, s21, s22, s23, s24] 10 (.int v) = some #[.val z0, s1, s2, s3, s4, s5, s6, s7, .val z8, .val z9, .val (.int v), s11, s12, s13, s14, s15, s16, s17, s18, s19, s20, s21, s22, s23, s24] := by
  rcases h with rfl | ⟨w, rfl, hw⟩
  · rfl
  · cases w <;> first | rfl | (simp [Value.category] at hw)
theorem os0_41 {z0 : Value} {s1 : Slot} {s2 : Slot} {s3 : Slot} {s4 : Slot} {s5 : Slot} {s6 : Slot} {s7 : Slot} {z8 : Value} {z9 : Value} {z10 : Value} {s11 : Slot} {s12 : Slot} {s13 : Slot} {s14 : Slot} {s15 : Slot} {s16 : Slot} {s17 : Slot} {s18 : Slot} {s19 : Slot} {s20 : Slot} {s21 : Slot} {s22 : Slot} {s23 : Slot} {s24 : Slot} {v : Int32} (h : One s11) : storeLocals #[.val z0, s1, s2, s3, s4, s5, s6, s7, .val z8, .val z9, .val z10, s11, s12, s13, s14, s15, s16, s17, s18, s19, s20, s21, s22, s23, s24] 11 (.int v) = some #[.val z0, s1, s2, s3, s4, s5, s6, s7, .val z8, .val z9, .val z10, .val (.int v), s12, s13, s14, s15, s16, s17, s18, s19, s20, s21, s22, s23, s24] := by
  rcases h with rfl | ⟨w, rfl, hw⟩
  · rfl
  · cases w <;> first | rfl | (simp [Value.category] at hw)
set_option maxRecDepth 65536 in
set_option maxHeartbeats 40000000 in
theorem own_s0 {p : Program} {l : Launch} {e : Env} {R : Room} {s : State} {m : MethodId} {args : Array Value} {below : List Frame} {meth : Method} {c : Code} {T0 : State} {locs : List Loc} {cells slots : Nat} {Z : State} {a0 : Array Value} {h0 : Heap} (i0 : Int32) (s1 : Slot) (s2 : Slot) (s3 : Slot) (s4 : Slot) (s5 : Slot) (s6 : Slot) (s7 : Slot) (s12 : Slot) (s13 : Slot) (s14 : Slot) (s15 : Slot) (s16 : Slot) (s17 : Slot) (s18 : Slot) (s19 : Slot) (s20 : Slot) (s21 : Slot) (s22 : Slot) (s23 : Slot) (s24 : Slot)
    (X0 : Stand p l e R s m args below meth c T0 locs cells slots) (hx : p.tables.exec = Jvm.exec) (hZ : Z.Warmed39 s.vm) (hw : ∀ d ∈ tables_1, d.before a0 Z = true) (hby : c.code = code) (hml : c.maxLocals = 25) (hown : s.vm.findClass "com/example/upweight/upweight/HeldTermsAddPinLaw" = some m.cls) (e0 : T0.heap = h0) (hs8 : One .unset) (hs9 : One .unset) (hs10 : One .unset) (hs11 : One .unset) (hc7 : (i0 &&& (3 : Int32)) = (0 : Int32)) (hc20 : ¬ ((1 : Int32) < (i0 &&& (3 : Int32)))) (hc33 : ¬ ((2 : Int32) < (i0 &&& (3 : Int32)))) :
    ∃ (T' : State), Stand p l e R s m args below meth c T' locs cells slots ∧ T'.heap = h0 ∧
      ∀ target, Steps p.tables e below (T'.setTop (mkF m 43 #[.val (.int i0), s1, s2, s3, s4, s5, s6, s7, .val (.int (i0 &&& (3 : Int32))), .val (.int (1 : Int32)), .val (.int (2 : Int32)), .val (.int (3 : Int32)), s12, s13, s14, s15, s16, s17, s18, s19, s20, s21, s22, s23, s24] [])) target → Steps p.tables e below (T0.setTop (mkF m 0 #[.val (.int i0), s1, s2, s3, s4, s5, s6, s7, .unset, .unset, .unset, .unset, s12, s13, s14, s15, s16, s17, s18, s19, s20, s21, s22, s23, s24] [])) target := by

  refine ⟨T0, X0, e0, fun target kt => ?_⟩
  show Steps p.tables e below (T0.setTop (mkF m 0 #[.val (.int i0), s1, s2, s3, s4, s5, s6, s7, .unset, .unset, .unset, .unset, s12, s13, s14, s15, s16, s17, s18, s19, s20, s21, s22, s23, s24] [])) _
  refine XS.iloadN X0.here hx rfl (hb hby at_0) rfl ?_
  show Steps p.tables e below (T0.setTop (mkF m 1 #[.val (.int i0), s1, s2, s3, s4, s5, s6, s7, .unset, .unset, .unset, .unset, s12, s13, s14, s15, s16, s17, s18, s19, s20, s21, s22, s23, s24] [(.int i0)])) _
  refine XS.iconst X0.here hx rfl (hb hby at_1) ?_
  show Steps p.tables e below (T0.setTop (mkF m 2 #[.val (.int i0), s1, s2, s3, s4, s5, s6, s7, .unset, .unset, .unset, .unset, s12, s13, s14, s15, s16, s17, s18, s19, s20, s21, s22, s23, s24] [(.int (3 : Int32)), (.int i0)])) _
  refine XS.iand X0.here hx rfl (hb hby at_2) rfl ?_
  show Steps p.tables e below (T0.setTop (mkF m 3 #[.val (.int i0), s1, s2, s3, s4, s5, s6, s7, .unset, .unset, .unset, .unset, s12, s13, s14, s15, s16, s17, s18, s19, s20, s21, s22, s23, s24] [(.int (i0 &&& (3 : Int32)))])) _
  refine XS.istore X0.here hx rfl (hb hby at_3) rfl (l' := #[.val (.int i0), s1, s2, s3, s4, s5, s6, s7, .val (.int (i0 &&& (3 : Int32))), .unset, .unset, .unset, s12, s13, s14, s15, s16, s17, s18, s19, s20, s21, s22, s23, s24]) (os0_3 hs8) ?_
  show Steps p.tables e below (T0.setTop (mkF m 5 #[.val (.int i0), s1, s2, s3, s4, s5, s6, s7, .val (.int (i0 &&& (3 : Int32))), .unset, .unset, .unset, s12, s13, s14, s15, s16, s17, s18, s19, s20, s21, s22, s23, s24] [])) _
  refine XS.iload X0.here hx rfl (hb hby at_5) rfl ?_
  show Steps p.tables e below (T0.setTop (mkF m 7 #[.val (.int i0), s1, s2, s3, s4, s5, s6, s7, .val (.int (i0 &&& (3 : Int32))), .unset, .unset, .unset, s12, s13, s14, s15, s16, s17, s18, s19, s20, s21, s22, s23, s24] [(.int (i0 &&& (3 : Int32)))])) _
  refine XS.ifNo X0.here hx rfl (hb hby at_7) rfl ((if0 _ _).trans (teq hc7).2) ?_
  show Steps p.tables e below (T0.setTop (mkF m 10 #[.val (.int i0), s1, s2, s3, s4, s5, s6, s7, .val (.int (i0 &&& (3 : Int32))), .unset, .unset, .unset, s12, s13, s14, s15, s16, s17, s18, s19, s20, s21, s22, s23, s24] [])) _
  refine XS.iconst X0.here hx rfl (hb hby at_10) ?_
  show Steps p.tables e below (T0.setTop (mkF m 11 #[.val (.int i0), s1, s2, s3, s4, s5, s6, s7, .val (.int (i0 &&& (3 : Int32))), .unset, .unset, .unset, s12, s13, s14, s15, s16, s17, s18, s19, s20, s21, s22, s23, s24] [(.int (1 : Int32))])) _
  refine XS.goto X0.here hx rfl (pc0 := 11) (pc' := 15) rfl (hb hby at_11) (by decide) (by decide) ?_
  show Steps p.tables e below (T0.setTop (mkF m 15 #[.val (.int i0), s1, s2, s3, s4, s5, s6, s7, .val (.int (i0 &&& (3 : Int32))), .unset, .unset, .unset, s12, s13, s14, s15, s16, s17, s18, s19, s20, s21, s22, s23, s24] [(.int (1 : Int32))])) _
  refine XS.istore X0.here hx rfl (hb hby at_15) rfl (l' := #[.val (.int i0), s1, s2, s3, s4, s5, s6, s7, .val (.int (i0 &&& (3 : Int32))), .val (.int (1 : Int32)), .unset, .unset, s12, s13, s14, s15, s16, s17, s18, s19, s20, s21, s22, s23, s24]) (os0_15 hs9) ?_
  show Steps p.tables e below (T0.setTop (mkF m 17 #[.val (.int i0), s1, s2, s3, s4, s5, s6, s7, .val (.int (i0 &&& (3 : Int32))), .val (.int (1 : Int32)), .unset, .unset, s12, s13, s14, s15, s16, s17, s18, s19, s20, s21, s22, s23, s24] [])) _
  refine XS.iload X0.here hx rfl (hb hby at_17) rfl ?_
  show Steps p.tables e below (T0.setTop (mkF m 19 #[.val (.int i0), s1, s2, s3, s4, s5, s6, s7, .val (.int (i0 &&& (3 : Int32))), .val (.int (1 : Int32)), .unset, .unset, s12, s13, s14, s15, s16, s17, s18, s19, s20, s21, s22, s23, s24] [(.int (i0 &&& (3 : Int32)))])) _
  refine XS.iconst X0.here hx rfl (hb hby at_19) ?_
  show Steps p.tables e below (T0.setTop (mkF m 20 #[.val (.int i0), s1, s2, s3, s4, s5, s6, s7, .val (.int (i0 &&& (3 : Int32))), .val (.int (1 : Int32)), .unset, .unset, s12, s13, s14, s15, s16, s17, s18, s19, s20, s21, s22, s23, s24] [(.int (1 : Int32)), (.int (i0 &&& (3 : Int32)))])) _
  refine XS.icmpNo X0.here hx rfl (hb hby at_20) rfl (flt hc20).2.2.1 ?_
  show Steps p.tables e below (T0.setTop (mkF m 23 #[.val (.int i0), s1, s2, s3, s4, s5, s6, s7, .val (.int (i0 &&& (3 : Int32))), .val (.int (1 : Int32)), .unset, .unset, s12, s13, s14, s15, s16, s17, s18, s19, s20, s21, s22, s23, s24] [])) _
  refine XS.iconst X0.here hx rfl (hb hby at_23) ?_
  show Steps p.tables e below (T0.setTop (mkF m 24 #[.val (.int i0), s1, s2, s3, s4, s5, s6, s7, .val (.int (i0 &&& (3 : Int32))), .val (.int (1 : Int32)), .unset, .unset, s12, s13, s14, s15, s16, s17, s18, s19, s20, s21, s22, s23, s24] [(.int (2 : Int32))])) _
  refine XS.goto X0.here hx rfl (pc0 := 24) (pc' := 28) rfl (hb hby at_24) (by decide) (by decide) ?_
  show Steps p.tables e below (T0.setTop (mkF m 28 #[.val (.int i0), s1, s2, s3, s4, s5, s6, s7, .val (.int (i0 &&& (3 : Int32))), .val (.int (1 : Int32)), .unset, .unset, s12, s13, s14, s15, s16, s17, s18, s19, s20, s21, s22, s23, s24] [(.int (2 : Int32))])) _
  refine XS.istore X0.here hx rfl (hb hby at_28) rfl (l' := #[.val (.int i0), s1, s2, s3, s4, s5, s6, s7, .val (.int (i0 &&& (3 : Int32))), .val (.int (1 : Int32)), .val (.int (2 : Int32)), .unset, s12, s13, s14, s15, s16, s17, s18, s19, s20, s21, s22, s23, s24]) (os0_28 hs10) ?_
  show Steps p.tables e below (T0.setTop (mkF m 30 #[.val (.int i0), s1, s2, s3, s4, s5, s6, s7, .val (.int (i0 &&& (3 : Int32))), .val (.int (1 : Int32)), .val (.int (2 : Int32)), .unset, s12, s13, s14, s15, s16, s17, s18, s19, s20, s21, s22, s23, s24] [])) _
  refine XS.iload X0.here hx rfl (hb hby at_30) rfl ?_
  show Steps p.tables e below (T0.setTop (mkF m 32 #[.val (.int i0), s1, s2, s3, s4, s5, s6, s7, .val (.int (i0 &&& (3 : Int32))), .val (.int (1 : Int32)), .val (.int (2 : Int32)), .unset, s12, s13, s14, s15, s16, s17, s18, s19, s20, s21, s22, s23, s24] [(.int (i0 &&& (3 : Int32)))])) _
  refine XS.iconst X0.here hx rfl (hb hby at_32) ?_
  show Steps p.tables e below (T0.setTop (mkF m 33 #[.val (.int i0), s1, s2, s3, s4, s5, s6, s7, .val (.int (i0 &&& (3 : Int32))), .val (.int (1 : Int32)), .val (.int (2 : Int32)), .unset, s12, s13, s14, s15, s16, s17, s18, s19, s20, s21, s22, s23, s24] [(.int (2 : Int32)), (.int (i0 &&& (3 : Int32)))])) _
  refine XS.icmpNo X0.here hx rfl (hb hby at_33) rfl (flt hc33).2.2.1 ?_
  show Steps p.tables e below (T0.setTop (mkF m 36 #[.val (.int i0), s1, s2, s3, s4, s5, s6, s7, .val (.int (i0 &&& (3 : Int32))), .val (.int (1 : Int32)), .val (.int (2 : Int32)), .unset, s12, s13, s14, s15, s16, s17, s18, s19, s20, s21, s22, s23, s24] [])) _
  refine XS.iconst X0.here hx rfl (hb hby at_36) ?_
  show Steps p.tables e below (T0.setTop (mkF m 37 #[.val (.int i0), s1, s2, s3, s4, s5, s6, s7, .val (.int (i0 &&& (3 : Int32))), .val (.int (1 : Int32)), .val (.int (2 : Int32)), .unset, s12, s13, s14, s15, s16, s17, s18, s19, s20, s21, s22, s23, s24] [(.int (3 : Int32))])) _
  refine XS.goto X0.here hx rfl (pc0 := 37) (pc' := 41) rfl (hb hby at_37) (by decide) (by decide) ?_
  show Steps p.tables e below (T0.setTop (mkF m 41 #[.val (.int i0), s1, s2, s3, s4, s5, s6, s7, .val (.int (i0 &&& (3 : Int32))), .val (.int (1 : Int32)), .val (.int (2 : Int32)), .unset, s12, s13, s14, s15, s16, s17, s18, s19, s20, s21, s22, s23, s24] [(.int (3 : Int32))])) _
  refine XS.istore X0.here hx rfl (hb hby at_41) rfl (l' := #[.val (.int i0), s1, s2, s3, s4, s5, s6, s7, .val (.int (i0 &&& (3 : Int32))), .val (.int (1 : Int32)), .val (.int (2 : Int32)), .val (.int (3 : Int32)), s12, s13, s14, s15, s16, s17, s18, s19, s20, s21, s22, s23, s24]) (os0_41 hs11) ?_
  exact kt
set_option maxRecDepth 65536 in
set_option maxHeartbeats 40000000 in
theorem own_s1 {p : Program} {l : Launch} {e : Env} {R : Room} {s : State} {m : MethodId} {args : Array Value} {below : List Frame} {meth : Method} {c : Code} {T0 : State} {locs : List Loc} {cells slots : Nat} {Z : State} {a0 : Array Value} {h0 : Heap} (i0 : Int32) (s1 : Slot) (s2 : Slot) (s3 : Slot) (s4 : Slot) (s5 : Slot) (s6 : Slot) (s7 : Slot) (s12 : Slot) (s13 : Slot) (s14 : Slot) (s15 : Slot) (s16 : Slot) (s17 : Slot) (s18 : Slot) (s19 : Slot) (s20 : Slot) (s21 : Slot) (s22 : Slot) (s23 : Slot) (s24 : Slot)
    (X0 : Stand p l e R s m args below meth c T0 locs cells slots) (hx : p.tables.exec = Jvm.exec) (hZ : Z.Warmed39 s.vm) (hw : ∀ d ∈ tables_1, d.before a0 Z = true) (hby : c.code = code) (hml : c.maxLocals = 25) (hown : s.vm.findClass "com/example/upweight/upweight/HeldTermsAddPinLaw" = some m.cls) (e0 : T0.heap = h0) (hs8 : One .unset) (hs9 : One .unset) (hs10 : One .unset) (hs11 : One .unset) (hc7 : ¬ ((i0 &&& (3 : Int32)) = (0 : Int32))) (hc20 : ¬ ((1 : Int32) < (i0 &&& (3 : Int32)))) (hc33 : ¬ ((2 : Int32) < (i0 &&& (3 : Int32)))) :
    ∃ (T' : State), Stand p l e R s m args below meth c T' locs cells slots ∧ T'.heap = h0 ∧
      ∀ target, Steps p.tables e below (T'.setTop (mkF m 43 #[.val (.int i0), s1, s2, s3, s4, s5, s6, s7, .val (.int (i0 &&& (3 : Int32))), .val (.int (0 : Int32)), .val (.int (2 : Int32)), .val (.int (3 : Int32)), s12, s13, s14, s15, s16, s17, s18, s19, s20, s21, s22, s23, s24] [])) target → Steps p.tables e below (T0.setTop (mkF m 0 #[.val (.int i0), s1, s2, s3, s4, s5, s6, s7, .unset, .unset, .unset, .unset, s12, s13, s14, s15, s16, s17, s18, s19, s20, s21, s22, s23, s24] [])) target := by

  refine ⟨T0, X0, e0, fun target kt => ?_⟩
  show Steps p.tables e below (T0.setTop (mkF m 0 #[.val (.int i0), s1, s2, s3, s4, s5, s6, s7, .unset, .unset, .unset, .unset, s12, s13, s14, s15, s16, s17, s18, s19, s20, s21, s22, s23, s24] [])) _
  refine XS.iloadN X0.here hx rfl (hb hby at_0) rfl ?_
  show Steps p.tables e below (T0.setTop (mkF m 1 #[.val (.int i0), s1, s2, s3, s4, s5, s6, s7, .unset, .unset, .unset, .unset, s12, s13, s14, s15, s16, s17, s18, s19, s20, s21, s22, s23, s24] [(.int i0)])) _
  refine XS.iconst X0.here hx rfl (hb hby at_1) ?_
  show Steps p.tables e below (T0.setTop (mkF m 2 #[.val (.int i0), s1, s2, s3, s4, s5, s6, s7, .unset, .unset, .unset, .unset, s12, s13, s14, s15, s16, s17, s18, s19, s20, s21, s22, s23, s24] [(.int (3 : Int32)), (.int i0)])) _
  refine XS.iand X0.here hx rfl (hb hby at_2) rfl ?_
  show Steps p.tables e below (T0.setTop (mkF m 3 #[.val (.int i0), s1, s2, s3, s4, s5, s6, s7, .unset, .unset, .unset, .unset, s12, s13, s14, s15, s16, s17, s18, s19, s20, s21, s22, s23, s24] [(.int (i0 &&& (3 : Int32)))])) _
  refine XS.istore X0.here hx rfl (hb hby at_3) rfl (l' := #[.val (.int i0), s1, s2, s3, s4, s5, s6, s7, .val (.int (i0 &&& (3 : Int32))), .unset, .unset, .unset, s12, s13, s14, s15, s16, s17, s18, s19, s20, s21, s22, s23, s24]) (os0_3 hs8) ?_
  show Steps p.tables e below (T0.setTop (mkF m 5 #[.val (.int i0), s1, s2, s3, s4, s5, s6, s7, .val (.int (i0 &&& (3 : Int32))), .unset, .unset, .unset, s12, s13, s14, s15, s16, s17, s18, s19, s20, s21, s22, s23, s24] [])) _
  refine XS.iload X0.here hx rfl (hb hby at_5) rfl ?_
  show Steps p.tables e below (T0.setTop (mkF m 7 #[.val (.int i0), s1, s2, s3, s4, s5, s6, s7, .val (.int (i0 &&& (3 : Int32))), .unset, .unset, .unset, s12, s13, s14, s15, s16, s17, s18, s19, s20, s21, s22, s23, s24] [(.int (i0 &&& (3 : Int32)))])) _
  refine XS.ifYes X0.here hx rfl (pc0 := 7) (pc' := 14) rfl (hb hby at_7) rfl ((if0 _ _).trans (feq hc7).2) (by decide) (by decide) ?_
  show Steps p.tables e below (T0.setTop (mkF m 14 #[.val (.int i0), s1, s2, s3, s4, s5, s6, s7, .val (.int (i0 &&& (3 : Int32))), .unset, .unset, .unset, s12, s13, s14, s15, s16, s17, s18, s19, s20, s21, s22, s23, s24] [])) _
  refine XS.iconst X0.here hx rfl (hb hby at_14) ?_
  show Steps p.tables e below (T0.setTop (mkF m 15 #[.val (.int i0), s1, s2, s3, s4, s5, s6, s7, .val (.int (i0 &&& (3 : Int32))), .unset, .unset, .unset, s12, s13, s14, s15, s16, s17, s18, s19, s20, s21, s22, s23, s24] [(.int (0 : Int32))])) _
  refine XS.istore X0.here hx rfl (hb hby at_15) rfl (l' := #[.val (.int i0), s1, s2, s3, s4, s5, s6, s7, .val (.int (i0 &&& (3 : Int32))), .val (.int (0 : Int32)), .unset, .unset, s12, s13, s14, s15, s16, s17, s18, s19, s20, s21, s22, s23, s24]) (os0_15 hs9) ?_
  show Steps p.tables e below (T0.setTop (mkF m 17 #[.val (.int i0), s1, s2, s3, s4, s5, s6, s7, .val (.int (i0 &&& (3 : Int32))), .val (.int (0 : Int32)), .unset, .unset, s12, s13, s14, s15, s16, s17, s18, s19, s20, s21, s22, s23, s24] [])) _
  refine XS.iload X0.here hx rfl (hb hby at_17) rfl ?_
  show Steps p.tables e below (T0.setTop (mkF m 19 #[.val (.int i0), s1, s2, s3, s4, s5, s6, s7, .val (.int (i0 &&& (3 : Int32))), .val (.int (0 : Int32)), .unset, .unset, s12, s13, s14, s15, s16, s17, s18, s19, s20, s21, s22, s23, s24] [(.int (i0 &&& (3 : Int32)))])) _
  refine XS.iconst X0.here hx rfl (hb hby at_19) ?_
  show Steps p.tables e below (T0.setTop (mkF m 20 #[.val (.int i0), s1, s2, s3, s4, s5, s6, s7, .val (.int (i0 &&& (3 : Int32))), .val (.int (0 : Int32)), .unset, .unset, s12, s13, s14, s15, s16, s17, s18, s19, s20, s21, s22, s23, s24] [(.int (1 : Int32)), (.int (i0 &&& (3 : Int32)))])) _
  refine XS.icmpNo X0.here hx rfl (hb hby at_20) rfl (flt hc20).2.2.1 ?_
  show Steps p.tables e below (T0.setTop (mkF m 23 #[.val (.int i0), s1, s2, s3, s4, s5, s6, s7, .val (.int (i0 &&& (3 : Int32))), .val (.int (0 : Int32)), .unset, .unset, s12, s13, s14, s15, s16, s17, s18, s19, s20, s21, s22, s23, s24] [])) _
  refine XS.iconst X0.here hx rfl (hb hby at_23) ?_
  show Steps p.tables e below (T0.setTop (mkF m 24 #[.val (.int i0), s1, s2, s3, s4, s5, s6, s7, .val (.int (i0 &&& (3 : Int32))), .val (.int (0 : Int32)), .unset, .unset, s12, s13, s14, s15, s16, s17, s18, s19, s20, s21, s22, s23, s24] [(.int (2 : Int32))])) _
  refine XS.goto X0.here hx rfl (pc0 := 24) (pc' := 28) rfl (hb hby at_24) (by decide) (by decide) ?_
  show Steps p.tables e below (T0.setTop (mkF m 28 #[.val (.int i0), s1, s2, s3, s4, s5, s6, s7, .val (.int (i0 &&& (3 : Int32))), .val (.int (0 : Int32)), .unset, .unset, s12, s13, s14, s15, s16, s17, s18, s19, s20, s21, s22, s23, s24] [(.int (2 : Int32))])) _
  refine XS.istore X0.here hx rfl (hb hby at_28) rfl (l' := #[.val (.int i0), s1, s2, s3, s4, s5, s6, s7, .val (.int (i0 &&& (3 : Int32))), .val (.int (0 : Int32)), .val (.int (2 : Int32)), .unset, s12, s13, s14, s15, s16, s17, s18, s19, s20, s21, s22, s23, s24]) (os0_28 hs10) ?_
  show Steps p.tables e below (T0.setTop (mkF m 30 #[.val (.int i0), s1, s2, s3, s4, s5, s6, s7, .val (.int (i0 &&& (3 : Int32))), .val (.int (0 : Int32)), .val (.int (2 : Int32)), .unset, s12, s13, s14, s15, s16, s17, s18, s19, s20, s21, s22, s23, s24] [])) _
  refine XS.iload X0.here hx rfl (hb hby at_30) rfl ?_
  show Steps p.tables e below (T0.setTop (mkF m 32 #[.val (.int i0), s1, s2, s3, s4, s5, s6, s7, .val (.int (i0 &&& (3 : Int32))), .val (.int (0 : Int32)), .val (.int (2 : Int32)), .unset, s12, s13, s14, s15, s16, s17, s18, s19, s20, s21, s22, s23, s24] [(.int (i0 &&& (3 : Int32)))])) _
  refine XS.iconst X0.here hx rfl (hb hby at_32) ?_
  show Steps p.tables e below (T0.setTop (mkF m 33 #[.val (.int i0), s1, s2, s3, s4, s5, s6, s7, .val (.int (i0 &&& (3 : Int32))), .val (.int (0 : Int32)), .val (.int (2 : Int32)), .unset, s12, s13, s14, s15, s16, s17, s18, s19, s20, s21, s22, s23, s24] [(.int (2 : Int32)), (.int (i0 &&& (3 : Int32)))])) _
  refine XS.icmpNo X0.here hx rfl (hb hby at_33) rfl (flt hc33).2.2.1 ?_
  show Steps p.tables e below (T0.setTop (mkF m 36 #[.val (.int i0), s1, s2, s3, s4, s5, s6, s7, .val (.int (i0 &&& (3 : Int32))), .val (.int (0 : Int32)), .val (.int (2 : Int32)), .unset, s12, s13, s14, s15, s16, s17, s18, s19, s20, s21, s22, s23, s24] [])) _
  refine XS.iconst X0.here hx rfl (hb hby at_36) ?_
  show Steps p.tables e below (T0.setTop (mkF m 37 #[.val (.int i0), s1, s2, s3, s4, s5, s6, s7, .val (.int (i0 &&& (3 : Int32))), .val (.int (0 : Int32)), .val (.int (2 : Int32)), .unset, s12, s13, s14, s15, s16, s17, s18, s19, s20, s21, s22, s23, s24] [(.int (3 : Int32))])) _
  refine XS.goto X0.here hx rfl (pc0 := 37) (pc' := 41) rfl (hb hby at_37) (by decide) (by decide) ?_
  show Steps p.tables e below (T0.setTop (mkF m 41 #[.val (.int i0), s1, s2, s3, s4, s5, s6, s7, .val (.int (i0 &&& (3 : Int32))), .val (.int (0 : Int32)), .val (.int (2 : Int32)), .unset, s12, s13, s14, s15, s16, s17, s18, s19, s20, s21, s22, s23, s24] [(.int (3 : Int32))])) _
  refine XS.istore X0.here hx rfl (hb hby at_41) rfl (l' := #[.val (.int i0), s1, s2, s3, s4, s5, s6, s7, .val (.int (i0 &&& (3 : Int32))), .val (.int (0 : Int32)), .val (.int (2 : Int32)), .val (.int (3 : Int32)), s12, s13, s14, s15, s16, s17, s18, s19, s20, s21, s22, s23, s24]) (os0_41 hs11) ?_
  exact kt
set_option maxRecDepth 65536 in
set_option maxHeartbeats 40000000 in
theorem own_s2 {p : Program} {l : Launch} {e : Env} {R : Room} {s : State} {m : MethodId} {args : Array Value} {below : List Frame} {meth : Method} {c : Code} {T0 : State} {locs : List Loc} {cells slots : Nat} {Z : State} {a0 : Array Value} {h0 : Heap} (i0 : Int32) (s1 : Slot) (s2 : Slot) (s3 : Slot) (s4 : Slot) (s5 : Slot) (s6 : Slot) (s7 : Slot) (s12 : Slot) (s13 : Slot) (s14 : Slot) (s15 : Slot) (s16 : Slot) (s17 : Slot) (s18 : Slot) (s19 : Slot) (s20 : Slot) (s21 : Slot) (s22 : Slot) (s23 : Slot) (s24 : Slot)
    (X0 : Stand p l e R s m args below meth c T0 locs cells slots) (hx : p.tables.exec = Jvm.exec) (hZ : Z.Warmed39 s.vm) (hw : ∀ d ∈ tables_1, d.before a0 Z = true) (hby : c.code = code) (hml : c.maxLocals = 25) (hown : s.vm.findClass "com/example/upweight/upweight/HeldTermsAddPinLaw" = some m.cls) (e0 : T0.heap = h0) (hs8 : One .unset) (hs9 : One .unset) (hs10 : One .unset) (hs11 : One .unset) (hc7 : ¬ ((i0 &&& (3 : Int32)) = (0 : Int32))) (hc20 : (1 : Int32) < (i0 &&& (3 : Int32))) (hc33 : ¬ ((2 : Int32) < (i0 &&& (3 : Int32)))) :
    ∃ (T' : State), Stand p l e R s m args below meth c T' locs cells slots ∧ T'.heap = h0 ∧
      ∀ target, Steps p.tables e below (T'.setTop (mkF m 43 #[.val (.int i0), s1, s2, s3, s4, s5, s6, s7, .val (.int (i0 &&& (3 : Int32))), .val (.int (0 : Int32)), .val (.int (1 : Int32)), .val (.int (3 : Int32)), s12, s13, s14, s15, s16, s17, s18, s19, s20, s21, s22, s23, s24] [])) target → Steps p.tables e below (T0.setTop (mkF m 0 #[.val (.int i0), s1, s2, s3, s4, s5, s6, s7, .unset, .unset, .unset, .unset, s12, s13, s14, s15, s16, s17, s18, s19, s20, s21, s22, s23, s24] [])) target := by

  refine ⟨T0, X0, e0, fun target kt => ?_⟩
  show Steps p.tables e below (T0.setTop (mkF m 0 #[.val (.int i0), s1, s2, s3, s4, s5, s6, s7, .unset, .unset, .unset, .unset, s12, s13, s14, s15, s16, s17, s18, s19, s20, s21, s22, s23, s24] [])) _
  refine XS.iloadN X0.here hx rfl (hb hby at_0) rfl ?_
  show Steps p.tables e below (T0.setTop (mkF m 1 #[.val (.int i0), s1, s2, s3, s4, s5, s6, s7, .unset, .unset, .unset, .unset, s12, s13, s14, s15, s16, s17, s18, s19, s20, s21, s22, s23, s24] [(.int i0)])) _
  refine XS.iconst X0.here hx rfl (hb hby at_1) ?_
  show Steps p.tables e below (T0.setTop (mkF m 2 #[.val (.int i0), s1, s2, s3, s4, s5, s6, s7, .unset, .unset, .unset, .unset, s12, s13, s14, s15, s16, s17, s18, s19, s20, s21, s22, s23, s24] [(.int (3 : Int32)), (.int i0)])) _
  refine XS.iand X0.here hx rfl (hb hby at_2) rfl ?_
  show Steps p.tables e below (T0.setTop (mkF m 3 #[.val (.int i0), s1, s2, s3, s4, s5, s6, s7, .unset, .unset, .unset, .unset, s12, s13, s14, s15, s16, s17, s18, s19, s20, s21, s22, s23, s24] [(.int (i0 &&& (3 : Int32)))])) _
  refine XS.istore X0.here hx rfl (hb hby at_3) rfl (l' := #[.val (.int i0), s1, s2, s3, s4, s5, s6, s7, .val (.int (i0 &&& (3 : Int32))), .unset, .unset, .unset, s12, s13, s14, s15, s16, s17, s18, s19, s20, s21, s22, s23, s24]) (os0_3 hs8) ?_
  show Steps p.tables e below (T0.setTop (mkF m 5 #[.val (.int i0), s1, s2, s3, s4, s5, s6, s7, .val (.int (i0 &&& (3 : Int32))), .unset, .unset, .unset, s12, s13, s14, s15, s16, s17, s18, s19, s20, s21, s22, s23, s24] [])) _
  refine XS.iload X0.here hx rfl (hb hby at_5) rfl ?_
  show Steps p.tables e below (T0.setTop (mkF m 7 #[.val (.int i0), s1, s2, s3, s4, s5, s6, s7, .val (.int (i0 &&& (3 : Int32))), .unset, .unset, .unset, s12, s13, s14, s15, s16, s17, s18, s19, s20, s21, s22, s23, s24] [(.int (i0 &&& (3 : Int32)))])) _
  refine XS.ifYes X0.here hx rfl (pc0 := 7) (pc' := 14) rfl (hb hby at_7) rfl ((if0 _ _).trans (feq hc7).2) (by decide) (by decide) ?_
  show Steps p.tables e below (T0.setTop (mkF m 14 #[.val (.int i0), s1, s2, s3, s4, s5, s6, s7, .val (.int (i0 &&& (3 : Int32))), .unset, .unset, .unset, s12, s13, s14, s15, s16, s17, s18, s19, s20, s21, s22, s23, s24] [])) _
  refine XS.iconst X0.here hx rfl (hb hby at_14) ?_
  show Steps p.tables e below (T0.setTop (mkF m 15 #[.val (.int i0), s1, s2, s3, s4, s5, s6, s7, .val (.int (i0 &&& (3 : Int32))), .unset, .unset, .unset, s12, s13, s14, s15, s16, s17, s18, s19, s20, s21, s22, s23, s24] [(.int (0 : Int32))])) _
  refine XS.istore X0.here hx rfl (hb hby at_15) rfl (l' := #[.val (.int i0), s1, s2, s3, s4, s5, s6, s7, .val (.int (i0 &&& (3 : Int32))), .val (.int (0 : Int32)), .unset, .unset, s12, s13, s14, s15, s16, s17, s18, s19, s20, s21, s22, s23, s24]) (os0_15 hs9) ?_
  show Steps p.tables e below (T0.setTop (mkF m 17 #[.val (.int i0), s1, s2, s3, s4, s5, s6, s7, .val (.int (i0 &&& (3 : Int32))), .val (.int (0 : Int32)), .unset, .unset, s12, s13, s14, s15, s16, s17, s18, s19, s20, s21, s22, s23, s24] [])) _
  refine XS.iload X0.here hx rfl (hb hby at_17) rfl ?_
  show Steps p.tables e below (T0.setTop (mkF m 19 #[.val (.int i0), s1, s2, s3, s4, s5, s6, s7, .val (.int (i0 &&& (3 : Int32))), .val (.int (0 : Int32)), .unset, .unset, s12, s13, s14, s15, s16, s17, s18, s19, s20, s21, s22, s23, s24] [(.int (i0 &&& (3 : Int32)))])) _
  refine XS.iconst X0.here hx rfl (hb hby at_19) ?_
  show Steps p.tables e below (T0.setTop (mkF m 20 #[.val (.int i0), s1, s2, s3, s4, s5, s6, s7, .val (.int (i0 &&& (3 : Int32))), .val (.int (0 : Int32)), .unset, .unset, s12, s13, s14, s15, s16, s17, s18, s19, s20, s21, s22, s23, s24] [(.int (1 : Int32)), (.int (i0 &&& (3 : Int32)))])) _
  refine XS.icmpYes X0.here hx rfl (pc0 := 20) (pc' := 27) rfl (hb hby at_20) rfl (tlt hc20).2.2.1 (by decide) (by decide) ?_
  show Steps p.tables e below (T0.setTop (mkF m 27 #[.val (.int i0), s1, s2, s3, s4, s5, s6, s7, .val (.int (i0 &&& (3 : Int32))), .val (.int (0 : Int32)), .unset, .unset, s12, s13, s14, s15, s16, s17, s18, s19, s20, s21, s22, s23, s24] [])) _
  refine XS.iconst X0.here hx rfl (hb hby at_27) ?_
  show Steps p.tables e below (T0.setTop (mkF m 28 #[.val (.int i0), s1, s2, s3, s4, s5, s6, s7, .val (.int (i0 &&& (3 : Int32))), .val (.int (0 : Int32)), .unset, .unset, s12, s13, s14, s15, s16, s17, s18, s19, s20, s21, s22, s23, s24] [(.int (1 : Int32))])) _
  refine XS.istore X0.here hx rfl (hb hby at_28) rfl (l' := #[.val (.int i0), s1, s2, s3, s4, s5, s6, s7, .val (.int (i0 &&& (3 : Int32))), .val (.int (0 : Int32)), .val (.int (1 : Int32)), .unset, s12, s13, s14, s15, s16, s17, s18, s19, s20, s21, s22, s23, s24]) (os0_28 hs10) ?_
  show Steps p.tables e below (T0.setTop (mkF m 30 #[.val (.int i0), s1, s2, s3, s4, s5, s6, s7, .val (.int (i0 &&& (3 : Int32))), .val (.int (0 : Int32)), .val (.int (1 : Int32)), .unset, s12, s13, s14, s15, s16, s17, s18, s19, s20, s21, s22, s23, s24] [])) _
  refine XS.iload X0.here hx rfl (hb hby at_30) rfl ?_
  show Steps p.tables e below (T0.setTop (mkF m 32 #[.val (.int i0), s1, s2, s3, s4, s5, s6, s7, .val (.int (i0 &&& (3 : Int32))), .val (.int (0 : Int32)), .val (.int (1 : Int32)), .unset, s12, s13, s14, s15, s16, s17, s18, s19, s20, s21, s22, s23, s24] [(.int (i0 &&& (3 : Int32)))])) _
  refine XS.iconst X0.here hx rfl (hb hby at_32) ?_
  show Steps p.tables e below (T0.setTop (mkF m 33 #[.val (.int i0), s1, s2, s3, s4, s5, s6, s7, .val (.int (i0 &&& (3 : Int32))), .val (.int (0 : Int32)), .val (.int (1 : Int32)), .unset, s12, s13, s14, s15, s16, s17, s18, s19, s20, s21, s22, s23, s24] [(.int (2 : Int32)), (.int (i0 &&& (3 : Int32)))])) _
  refine XS.icmpNo X0.here hx rfl (hb hby at_33) rfl (flt hc33).2.2.1 ?_
  show Steps p.tables e below (T0.setTop (mkF m 36 #[.val (.int i0), s1, s2, s3, s4, s5, s6, s7, .val (.int (i0 &&& (3 : Int32))), .val (.int (0 : Int32)), .val (.int (1 : Int32)), .unset, s12, s13, s14, s15, s16, s17, s18, s19, s20, s21, s22, s23, s24] [])) _
  refine XS.iconst X0.here hx rfl (hb hby at_36) ?_
  show Steps p.tables e below (T0.setTop (mkF m 37 #[.val (.int i0), s1, s2, s3, s4, s5, s6, s7, .val (.int (i0 &&& (3 : Int32))), .val (.int (0 : Int32)), .val (.int (1 : Int32)), .unset, s12, s13, s14, s15, s16, s17, s18, s19, s20, s21, s22, s23, s24] [(.int (3 : Int32))])) _
  refine XS.goto X0.here hx rfl (pc0 := 37) (pc' := 41) rfl (hb hby at_37) (by decide) (by decide) ?_
  show Steps p.tables e below (T0.setTop (mkF m 41 #[.val (.int i0), s1, s2, s3, s4, s5, s6, s7, .val (.int (i0 &&& (3 : Int32))), .val (.int (0 : Int32)), .val (.int (1 : Int32)), .unset, s12, s13, s14, s15, s16, s17, s18, s19, s20, s21, s22, s23, s24] [(.int (3 : Int32))])) _
  refine XS.istore X0.here hx rfl (hb hby at_41) rfl (l' := #[.val (.int i0), s1, s2, s3, s4, s5, s6, s7, .val (.int (i0 &&& (3 : Int32))), .val (.int (0 : Int32)), .val (.int (1 : Int32)), .val (.int (3 : Int32)), s12, s13, s14, s15, s16, s17, s18, s19, s20, s21, s22, s23, s24]) (os0_41 hs11) ?_
  exact kt
set_option maxRecDepth 65536 in
set_option maxHeartbeats 40000000 in
theorem own_s3 {p : Program} {l : Launch} {e : Env} {R : Room} {s : State} {m : MethodId} {args : Array Value} {below : List Frame} {meth : Method} {c : Code} {T0 : State} {locs : List Loc} {cells slots : Nat} {Z : State} {a0 : Array Value} {h0 : Heap} (i0 : Int32) (s1 : Slot) (s2 : Slot) (s3 : Slot) (s4 : Slot) (s5 : Slot) (s6 : Slot) (s7 : Slot) (s12 : Slot) (s13 : Slot) (s14 : Slot) (s15 : Slot) (s16 : Slot) (s17 : Slot) (s18 : Slot) (s19 : Slot) (s20 : Slot) (s21 : Slot) (s22 : Slot) (s23 : Slot) (s24 : Slot)
    (X0 : Stand p l e R s m args below meth c T0 locs cells slots) (hx : p.tables.exec = Jvm.exec) (hZ : Z.Warmed39 s.vm) (hw : ∀ d ∈ tables_1, d.before a0 Z = true) (hby : c.code = code) (hml : c.maxLocals = 25) (hown : s.vm.findClass "com/example/upweight/upweight/HeldTermsAddPinLaw" = some m.cls) (e0 : T0.heap = h0) (hs8 : One .unset) (hs9 : One .unset) (hs10 : One .unset) (hs11 : One .unset) (hc7 : ¬ ((i0 &&& (3 : Int32)) = (0 : Int32))) (hc20 : (1 : Int32) < (i0 &&& (3 : Int32))) (hc33 : (2 : Int32) < (i0 &&& (3 : Int32))) :
    ∃ (T' : State), Stand p l e R s m args below meth c T' locs cells slots ∧ T'.heap = h0 ∧
      ∀ target, Steps p.tables e below (T'.setTop (mkF m 43 #[.val (.int i0), s1, s2, s3, s4, s5, s6, s7, .val (.int (i0 &&& (3 : Int32))), .val (.int (0 : Int32)), .val (.int (1 : Int32)), .val (.int (2 : Int32)), s12, s13, s14, s15, s16, s17, s18, s19, s20, s21, s22, s23, s24] [])) target → Steps p.tables e below (T0.setTop (mkF m 0 #[.val (.int i0), s1, s2, s3, s4, s5, s6, s7, .unset, .unset, .unset, .unset, s12, s13, s14, s15, s16, s17, s18, s19, s20, s21, s22, s23, s24] [])) target := by

  refine ⟨T0, X0, e0, fun target kt => ?_⟩
  show Steps p.tables e below (T0.setTop (mkF m 0 #[.val (.int i0), s1, s2, s3, s4, s5, s6, s7, .unset, .unset, .unset, .unset, s12, s13, s14, s15, s16, s17, s18, s19, s20, s21, s22, s23, s24] [])) _
  refine XS.iloadN X0.here hx rfl (hb hby at_0) rfl ?_
  show Steps p.tables e below (T0.setTop (mkF m 1 #[.val (.int i0), s1, s2, s3, s4, s5, s6, s7, .unset, .unset, .unset, .unset, s12, s13, s14, s15, s16, s17, s18, s19, s20, s21, s22, s23, s24] [(.int i0)])) _
  refine XS.iconst X0.here hx rfl (hb hby at_1) ?_
  show Steps p.tables e below (T0.setTop (mkF m 2 #[.val (.int i0), s1, s2, s3, s4, s5, s6, s7, .unset, .unset, .unset, .unset, s12, s13, s14, s15, s16, s17, s18, s19, s20, s21, s22, s23, s24] [(.int (3 : Int32)), (.int i0)])) _
  refine XS.iand X0.here hx rfl (hb hby at_2) rfl ?_
  show Steps p.tables e below (T0.setTop (mkF m 3 #[.val (.int i0), s1, s2, s3, s4, s5, s6, s7, .unset, .unset, .unset, .unset, s12, s13, s14, s15, s16, s17, s18, s19, s20, s21, s22, s23, s24] [(.int (i0 &&& (3 : Int32)))])) _
  refine XS.istore X0.here hx rfl (hb hby at_3) rfl (l' := #[.val (.int i0), s1, s2, s3, s4, s5, s6, s7, .val (.int (i0 &&& (3 : Int32))), .unset, .unset, .unset, s12, s13, s14, s15, s16, s17, s18, s19, s20, s21, s22, s23, s24]) (os0_3 hs8) ?_
  show Steps p.tables e below (T0.setTop (mkF m 5 #[.val (.int i0), s1, s2, s3, s4, s5, s6, s7, .val (.int (i0 &&& (3 : Int32))), .unset, .unset, .unset, s12, s13, s14, s15, s16, s17, s18, s19, s20, s21, s22, s23, s24] [])) _
  refine XS.iload X0.here hx rfl (hb hby at_5) rfl ?_
  show Steps p.tables e below (T0.setTop (mkF m 7 #[.val (.int i0), s1, s2, s3, s4, s5, s6, s7, .val (.int (i0 &&& (3 : Int32))), .unset, .unset, .unset, s12, s13, s14, s15, s16, s17, s18, s19, s20, s21, s22, s23, s24] [(.int (i0 &&& (3 : Int32)))])) _
  refine XS.ifYes X0.here hx rfl (pc0 := 7) (pc' := 14) rfl (hb hby at_7) rfl ((if0 _ _).trans (feq hc7).2) (by decide) (by decide) ?_
  show Steps p.tables e below (T0.setTop (mkF m 14 #[.val (.int i0), s1, s2, s3, s4, s5, s6, s7, .val (.int (i0 &&& (3 : Int32))), .unset, .unset, .unset, s12, s13, s14, s15, s16, s17, s18, s19, s20, s21, s22, s23, s24] [])) _
  refine XS.iconst X0.here hx rfl (hb hby at_14) ?_
  show Steps p.tables e below (T0.setTop (mkF m 15 #[.val (.int i0), s1, s2, s3, s4, s5, s6, s7, .val (.int (i0 &&& (3 : Int32))), .unset, .unset, .unset, s12, s13, s14, s15, s16, s17, s18, s19, s20, s21, s22, s23, s24] [(.int (0 : Int32))])) _
  refine XS.istore X0.here hx rfl (hb hby at_15) rfl (l' := #[.val (.int i0), s1, s2, s3, s4, s5, s6, s7, .val (.int (i0 &&& (3 : Int32))), .val (.int (0 : Int32)), .unset, .unset, s12, s13, s14, s15, s16, s17, s18, s19, s20, s21, s22, s23, s24]) (os0_15 hs9) ?_
  show Steps p.tables e below (T0.setTop (mkF m 17 #[.val (.int i0), s1, s2, s3, s4, s5, s6, s7, .val (.int (i0 &&& (3 : Int32))), .val (.int (0 : Int32)), .unset, .unset, s12, s13, s14, s15, s16, s17, s18, s19, s20, s21, s22, s23, s24] [])) _
  refine XS.iload X0.here hx rfl (hb hby at_17) rfl ?_
  show Steps p.tables e below (T0.setTop (mkF m 19 #[.val (.int i0), s1, s2, s3, s4, s5, s6, s7, .val (.int (i0 &&& (3 : Int32))), .val (.int (0 : Int32)), .unset, .unset, s12, s13, s14, s15, s16, s17, s18, s19, s20, s21, s22, s23, s24] [(.int (i0 &&& (3 : Int32)))])) _
  refine XS.iconst X0.here hx rfl (hb hby at_19) ?_
  show Steps p.tables e below (T0.setTop (mkF m 20 #[.val (.int i0), s1, s2, s3, s4, s5, s6, s7, .val (.int (i0 &&& (3 : Int32))), .val (.int (0 : Int32)), .unset, .unset, s12, s13, s14, s15, s16, s17, s18, s19, s20, s21, s22, s23, s24] [(.int (1 : Int32)), (.int (i0 &&& (3 : Int32)))])) _
  refine XS.icmpYes X0.here hx rfl (pc0 := 20) (pc' := 27) rfl (hb hby at_20) rfl (tlt hc20).2.2.1 (by decide) (by decide) ?_
  show Steps p.tables e below (T0.setTop (mkF m 27 #[.val (.int i0), s1, s2, s3, s4, s5, s6, s7, .val (.int (i0 &&& (3 : Int32))), .val (.int (0 : Int32)), .unset, .unset, s12, s13, s14, s15, s16, s17, s18, s19, s20, s21, s22, s23, s24] [])) _
  refine XS.iconst X0.here hx rfl (hb hby at_27) ?_
  show Steps p.tables e below (T0.setTop (mkF m 28 #[.val (.int i0), s1, s2, s3, s4, s5, s6, s7, .val (.int (i0 &&& (3 : Int32))), .val (.int (0 : Int32)), .unset, .unset, s12, s13, s14, s15, s16, s17, s18, s19, s20, s21, s22, s23, s24] [(.int (1 : Int32))])) _
  refine XS.istore X0.here hx rfl (hb hby at_28) rfl (l' := #[.val (.int i0), s1, s2, s3, s4, s5, s6, s7, .val (.int (i0 &&& (3 : Int32))), .val (.int (0 : Int32)), .val (.int (1 : Int32)), .unset, s12, s13, s14, s15, s16, s17, s18, s19, s20, s21, s22, s23, s24]) (os0_28 hs10) ?_
  show Steps p.tables e below (T0.setTop (mkF m 30 #[.val (.int i0), s1, s2, s3, s4, s5, s6, s7, .val (.int (i0 &&& (3 : Int32))), .val (.int (0 : Int32)), .val (.int (1 : Int32)), .unset, s12, s13, s14, s15, s16, s17, s18, s19, s20, s21, s22, s23, s24] [])) _
  refine XS.iload X0.here hx rfl (hb hby at_30) rfl ?_
  show Steps p.tables e below (T0.setTop (mkF m 32 #[.val (.int i0), s1, s2, s3, s4, s5, s6, s7, .val (.int (i0 &&& (3 : Int32))), .val (.int (0 : Int32)), .val (.int (1 : Int32)), .unset, s12, s13, s14, s15, s16, s17, s18, s19, s20, s21, s22, s23, s24] [(.int (i0 &&& (3 : Int32)))])) _
  refine XS.iconst X0.here hx rfl (hb hby at_32) ?_
  show Steps p.tables e below (T0.setTop (mkF m 33 #[.val (.int i0), s1, s2, s3, s4, s5, s6, s7, .val (.int (i0 &&& (3 : Int32))), .val (.int (0 : Int32)), .val (.int (1 : Int32)), .unset, s12, s13, s14, s15, s16, s17, s18, s19, s20, s21, s22, s23, s24] [(.int (2 : Int32)), (.int (i0 &&& (3 : Int32)))])) _
  refine XS.icmpYes X0.here hx rfl (pc0 := 33) (pc' := 40) rfl (hb hby at_33) rfl (tlt hc33).2.2.1 (by decide) (by decide) ?_
  show Steps p.tables e below (T0.setTop (mkF m 40 #[.val (.int i0), s1, s2, s3, s4, s5, s6, s7, .val (.int (i0 &&& (3 : Int32))), .val (.int (0 : Int32)), .val (.int (1 : Int32)), .unset, s12, s13, s14, s15, s16, s17, s18, s19, s20, s21, s22, s23, s24] [])) _
  refine XS.iconst X0.here hx rfl (hb hby at_40) ?_
  show Steps p.tables e below (T0.setTop (mkF m 41 #[.val (.int i0), s1, s2, s3, s4, s5, s6, s7, .val (.int (i0 &&& (3 : Int32))), .val (.int (0 : Int32)), .val (.int (1 : Int32)), .unset, s12, s13, s14, s15, s16, s17, s18, s19, s20, s21, s22, s23, s24] [(.int (2 : Int32))])) _
  refine XS.istore X0.here hx rfl (hb hby at_41) rfl (l' := #[.val (.int i0), s1, s2, s3, s4, s5, s6, s7, .val (.int (i0 &&& (3 : Int32))), .val (.int (0 : Int32)), .val (.int (1 : Int32)), .val (.int (2 : Int32)), s12, s13, s14, s15, s16, s17, s18, s19, s20, s21, s22, s23, s24]) (os0_41 hs11) ?_
  exact kt
theorem os0_50 {s0 : Slot} {z1 : Value} {s2 : Slot} {s3 : Slot} {s4 : Slot} {s5 : Slot} {s6 : Slot} {s7 : Slot} {s8 : Slot} {s9 : Slot} {s10 : Slot} {s11 : Slot} {s12 : Slot} {s13 : Slot} {s14 : Slot} {s15 : Slot} {s16 : Slot} {s17 : Slot} {s18 : Slot} {s19 : Slot} {s20 : Slot} {s21 : Slot} {s22 : Slot} {s23 : Slot} {s24 : Slot} {v : Int32} (h : One s12) : storeLocals #[s0, .val z1, s2, s3, s4, s5, s6, s7, s8, s9, s10, s11, s12, s13, s14, s15, s16, s17, s18, s19, s20, s21, s22, s23, s24] 12 (.int v) = some #[s0, .val z1, s2, s3, s4, s5, s6, s7, s8, s9, s10, s11, .val (.int v), s13, s14, s15, s16, s17, s18, s19, s20, s21, s22, s23, s24] := by
  rcases h with rfl | ⟨w, rfl, hw⟩
  · rfl
  · cases w <;> first | rfl | (simp [Value.category] at hw)
set_option maxRecDepth 65536 in
set_option maxHeartbeats 40000000 in
theorem tn0_43_52 {p : Program} {l : Launch} {e : Env} {R : Room} {s : State} {m : MethodId} {args : Array Value} {below : List Frame} {meth : Method} {c : Code} {T0 : State} {locs : List Loc} {cells slots : Nat} {Z : State} {a0 : Array Value} {h0 : Heap} (s0 : Slot) (i1 : Int32) (s2 : Slot) (s3 : Slot) (s4 : Slot) (s5 : Slot) (s6 : Slot) (s7 : Slot) (s8 : Slot) (s9 : Slot) (s10 : Slot) (s11 : Slot) (s13 : Slot) (s14 : Slot) (s15 : Slot) (s16 : Slot) (s17 : Slot) (s18 : Slot) (s19 : Slot) (s20 : Slot) (s21 : Slot) (s22 : Slot) (s23 : Slot) (s24 : Slot)
    (X0 : Stand p l e R s m args below meth c T0 locs cells slots) (hx : p.tables.exec = Jvm.exec) (hZ : Z.Warmed39 s.vm) (hw : ∀ d ∈ tables_1, d.before a0 Z = true) (hby : c.code = code) (hml : c.maxLocals = 25) (hown : s.vm.findClass "com/example/upweight/upweight/HeldTermsAddPinLaw" = some m.cls) (e0 : T0.heap = h0) (hs12 : One .unset) (hnz49 : ¬ ((6 : Int32) = (0 : Int32))) :
    ∃ (T' : State), Stand p l e R s m args below meth c T' locs cells slots ∧ T'.heap = h0 ∧
      ∀ target, Steps p.tables e below (T'.setTop (mkF m 52 #[s0, .val (.int i1), s2, s3, s4, s5, s6, s7, s8, s9, s10, s11, .val (.int ((i1 &&& (2147483647 : Int32)) % (6 : Int32))), s13, s14, s15, s16, s17, s18, s19, s20, s21, s22, s23, s24] [])) target → Steps p.tables e below (T0.setTop (mkF m 43 #[s0, .val (.int i1), s2, s3, s4, s5, s6, s7, s8, s9, s10, s11, .unset, s13, s14, s15, s16, s17, s18, s19, s20, s21, s22, s23, s24] [])) target := by

  refine ⟨T0, X0, e0, fun target kt => ?_⟩
  show Steps p.tables e below (T0.setTop (mkF m 43 #[s0, .val (.int i1), s2, s3, s4, s5, s6, s7, s8, s9, s10, s11, .unset, s13, s14, s15, s16, s17, s18, s19, s20, s21, s22, s23, s24] [])) _
  refine XS.iloadN X0.here hx rfl (hb hby at_43) rfl ?_
  show Steps p.tables e below (T0.setTop (mkF m 44 #[s0, .val (.int i1), s2, s3, s4, s5, s6, s7, s8, s9, s10, s11, .unset, s13, s14, s15, s16, s17, s18, s19, s20, s21, s22, s23, s24] [(.int i1)])) _
  refine X0.ldcInt hx hown (mvT hZ (hw _ (List.mem_of_getElem? (i := 0) rfl))) (g := (mkF m 44 #[s0, .val (.int i1), s2, s3, s4, s5, s6, s7, s8, s9, s10, s11, .unset, s13, s14, s15, s16, s17, s18, s19, s20, s21, s22, s23, s24] [(.int i1)])) rfl (hb hby at_44) _ ?_
  show Steps p.tables e below (T0.setTop (mkF m 46 #[s0, .val (.int i1), s2, s3, s4, s5, s6, s7, s8, s9, s10, s11, .unset, s13, s14, s15, s16, s17, s18, s19, s20, s21, s22, s23, s24] [(.int (2147483647 : Int32)), (.int i1)])) _
  refine XS.iand X0.here hx rfl (hb hby at_46) rfl ?_
  show Steps p.tables e below (T0.setTop (mkF m 47 #[s0, .val (.int i1), s2, s3, s4, s5, s6, s7, s8, s9, s10, s11, .unset, s13, s14, s15, s16, s17, s18, s19, s20, s21, s22, s23, s24] [(.int (i1 &&& (2147483647 : Int32)))])) _
  refine XS.bipush X0.here hx rfl (hb hby at_47) ?_
  show Steps p.tables e below (T0.setTop (mkF m 49 #[s0, .val (.int i1), s2, s3, s4, s5, s6, s7, s8, s9, s10, s11, .unset, s13, s14, s15, s16, s17, s18, s19, s20, s21, s22, s23, s24] [(.int (6 : Int32)), (.int (i1 &&& (2147483647 : Int32)))])) _
  refine own_irem X0.here hx rfl (hb hby at_49) rfl hnz49 ?_
  show Steps p.tables e below (T0.setTop (mkF m 50 #[s0, .val (.int i1), s2, s3, s4, s5, s6, s7, s8, s9, s10, s11, .unset, s13, s14, s15, s16, s17, s18, s19, s20, s21, s22, s23, s24] [(.int ((i1 &&& (2147483647 : Int32)) % (6 : Int32)))])) _
  refine XS.istore X0.here hx rfl (hb hby at_50) rfl (l' := #[s0, .val (.int i1), s2, s3, s4, s5, s6, s7, s8, s9, s10, s11, .val (.int ((i1 &&& (2147483647 : Int32)) % (6 : Int32))), s13, s14, s15, s16, s17, s18, s19, s20, s21, s22, s23, s24]) (os0_50 hs12) ?_
  exact kt
theorem os0_140 {s0 : Slot} {s1 : Slot} {s2 : Slot} {s3 : Slot} {s4 : Slot} {s5 : Slot} {s6 : Slot} {s7 : Slot} {s8 : Slot} {s9 : Slot} {s10 : Slot} {s11 : Slot} {s12 : Slot} {s13 : Slot} {s14 : Slot} {s15 : Slot} {s16 : Slot} {s17 : Slot} {s18 : Slot} {s19 : Slot} {s20 : Slot} {s21 : Slot} {s22 : Slot} {s23 : Slot} {s24 : Slot} {v : Addr} (h : One s13) : storeLocals #[s0, s1, s2, s3, s4, s5, s6, s7, s8, s9, s10, s11, s12, s13, s14, s15, s16, s17, s18, s19, s20, s21, s22, s23, s24] 13 (.ref v) = some #[s0, s1, s2, s3, s4, s5, s6, s7, s8, s9, s10, s11, s12, .val (.ref v), s14, s15, s16, s17, s18, s19, s20, s21, s22, s23, s24] := by
  rcases h with rfl | ⟨w, rfl, hw⟩
  · rfl
  · cases w <;> first | rfl | (simp [Value.category] at hw)
set_option maxRecDepth 65536 in
set_option maxHeartbeats 40000000 in
theorem tn0_52_142 {p : Program} {l : Launch} {e : Env} {s : State} {m : MethodId} {args : Array Value} {below : List Frame} {meth : Method} {c : Code} {T0 : State} {locs : List Loc} {Z : State} {a0 : Array Value} {h0 : Heap} {n0 : Nat} (s0 : Slot) (s1 : Slot) (s2 : Slot) (s3 : Slot) (s4 : Slot) (s5 : Slot) (s6 : Slot) (s7 : Slot) (s8 : Slot) (s9 : Slot) (s10 : Slot) (s11 : Slot) (s12 : Slot) (s14 : Slot) (s15 : Slot) (s16 : Slot) (s17 : Slot) (s18 : Slot) (s19 : Slot) (s20 : Slot) (s21 : Slot) (s22 : Slot) (s23 : Slot) (s24 : Slot)
    (X0 : Stand p l e room_1 s m args below meth c T0 locs 0 0) (hx : p.tables.exec = Jvm.exec) (hZ : Z.Warmed39 s.vm) (hw : ∀ d ∈ tables_1, d.before a0 Z = true) (hby : c.code = code) (hml : c.maxLocals = 25) (hown : s.vm.findClass "com/example/upweight/upweight/HeldTermsAddPinLaw" = some m.cls) (e0 : T0.heap = h0) (N0 : Fr n0 locs) (Z0 : n0 ≤ h0.size) (hs13 : One .unset) :
    ∃ (b6 : Addr) (T' : State) (h' : Heap) (locs' : List Loc), Stand p l e room_1 s m args below meth c T' locs' (0 + 1) (0 + 18) ∧ T'.heap = h' ∧ Fr n0 locs' ∧ n0 ≤ h'.size ∧ (own_AF Z h' b6 .int 18 (fun j => .int (Int32.ofNat (own_perm j))) ∧ n0 ≤ b6 ∧ Keep h0 h' []) ∧
      ∀ target, Steps p.tables e below (T'.setTop (mkF m 142 #[s0, s1, s2, s3, s4, s5, s6, s7, s8, s9, s10, s11, s12, .val (.ref b6), s14, s15, s16, s17, s18, s19, s20, s21, s22, s23, s24] [])) target → Steps p.tables e below (T0.setTop (mkF m 52 #[s0, s1, s2, s3, s4, s5, s6, s7, s8, s9, s10, s11, s12, .unset, s14, s15, s16, s17, s18, s19, s20, s21, s22, s23, s24] [])) target := by
  obtain ⟨T6, h6, k6, X6, e6, E6, A6, st6⟩ := newP X0 hx hZ (hw _ (List.mem_of_getElem? (i := 1) rfl)) e0 (g := (mkF m 54 #[s0, s1, s2, s3, s4, s5, s6, s7, s8, s9, s10, s11, s12, .unset, s14, s15, s16, s17, s18, s19, s20, s21, s22, s23, s24] [(.int (18 : Int32))])) rfl (hb hby at_54) rfl (by decide) (cap := 18) (by decide) (by decide) (by decide) (by decide)
  obtain ⟨b6, g6⟩ : ∃ z, z = h0.size := ⟨_, rfl⟩
  rw [← g6] at A6 st6
  have V_b6 : Arv Z h6 b6 k6 .int (18 : Int32) [(.int (0 : Int32)), (.int (0 : Int32)), (.int (0 : Int32)), (.int (0 : Int32)), (.int (0 : Int32)), (.int (0 : Int32)), (.int (0 : Int32)), (.int (0 : Int32)), (.int (0 : Int32)), (.int (0 : Int32)), (.int (0 : Int32)), (.int (0 : Int32)), (.int (0 : Int32)), (.int (0 : Int32)), (.int (0 : Int32)), (.int (0 : Int32)), (.int (0 : Int32)), (.int (0 : Int32))] (.int (0 : Int32)) := (Arv.new A6 (by decide)).pad (pad_rep [] (.int (0 : Int32)) 18)
  have g_b6 : n0 ≤ b6 := Nat.le_trans Z0 (Nat.le_of_eq g6.symm)
  have sz_b6 : h0.size ≤ b6 := (Nat.le_trans (Keep.refl h0 []).1 (Nat.le_of_eq g6.symm))
  have K6 : Keep h0 h6 [] := (Keep.refl h0 []).ext E6
  obtain ⟨cl_b6_59, Ar_b6, q_b6, S_b6, N_b6, H_b6, G_b6⟩ := V_b6
  have hin59 : ¬ ((0 : Int32) < 0 ∨ cl_b6_59.slots.size ≤ ((0 : Int32)).toNatClampNeg) := inb_of S_b6 ⟨by decide, by decide⟩
  obtain ⟨T7, h7, X7, e7, W7, st7⟩ := stI X6 hx hZ e6 Ar_b6 (j := (0 : Int32)) hin59 (g := (mkF m 59 #[s0, s1, s2, s3, s4, s5, s6, s7, s8, s9, s10, s11, s12, .unset, s14, s15, s16, s17, s18, s19, s20, s21, s22, s23, s24] [(.int (0 : Int32)), (.int (0 : Int32)), (.ref b6), (.ref b6)])) rfl rfl (hb hby at_59)
  have V_b6_7 := Arv.set Ar_b6 q_b6 S_b6 N_b6 H_b6 G_b6 rfl W7 0 rfl (Nat.le_of_ble_eq_true rfl)
  have K7 : Keep h0 h7 [] := K6.wr W7 (Or.inr sz_b6)
  have N7 := Fr.snoc X7 N0 g_b6
  obtain ⟨cl_b6_63, Ar_b6, q_b6, S_b6, N_b6, H_b6, G_b6⟩ := V_b6_7
  have hin63 : ¬ ((1 : Int32) < 0 ∨ cl_b6_63.slots.size ≤ ((1 : Int32)).toNatClampNeg) := inb_of S_b6 ⟨by decide, by decide⟩
  obtain ⟨T8, h8, X8, e8, W8, st8⟩ := stI X7 hx hZ e7 Ar_b6 (j := (1 : Int32)) hin63 (g := (mkF m 63 #[s0, s1, s2, s3, s4, s5, s6, s7, s8, s9, s10, s11, s12, .unset, s14, s15, s16, s17, s18, s19, s20, s21, s22, s23, s24] [(.int (1 : Int32)), (.int (1 : Int32)), (.ref b6), (.ref b6)])) rfl rfl (hb hby at_63)
  have V_b6_8 := Arv.set Ar_b6 q_b6 S_b6 N_b6 H_b6 G_b6 rfl W8 1 rfl (Nat.le_of_ble_eq_true rfl)
  have K8 : Keep h0 h8 [] := K7.wr W8 (Or.inr sz_b6)
  have N8 := Fr.snoc X8 N7 g_b6
  obtain ⟨cl_b6_67, Ar_b6, q_b6, S_b6, N_b6, H_b6, G_b6⟩ := V_b6_8
  have hin67 : ¬ ((2 : Int32) < 0 ∨ cl_b6_67.slots.size ≤ ((2 : Int32)).toNatClampNeg) := inb_of S_b6 ⟨by decide, by decide⟩
  obtain ⟨T9, h9, X9, e9, W9, st9⟩ := stI X8 hx hZ e8 Ar_b6 (j := (2 : Int32)) hin67 (g := (mkF m 67 #[s0, s1, s2, s3, s4, s5, s6, s7, s8, s9, s10, s11, s12, .unset, s14, s15, s16, s17, s18, s19, s20, s21, s22, s23, s24] [(.int (2 : Int32)), (.int (2 : Int32)), (.ref b6), (.ref b6)])) rfl rfl (hb hby at_67)
  have V_b6_9 := Arv.set Ar_b6 q_b6 S_b6 N_b6 H_b6 G_b6 rfl W9 2 rfl (Nat.le_of_ble_eq_true rfl)
  have K9 : Keep h0 h9 [] := K8.wr W9 (Or.inr sz_b6)
  have N9 := Fr.snoc X9 N8 g_b6
  obtain ⟨cl_b6_71, Ar_b6, q_b6, S_b6, N_b6, H_b6, G_b6⟩ := V_b6_9
  have hin71 : ¬ ((3 : Int32) < 0 ∨ cl_b6_71.slots.size ≤ ((3 : Int32)).toNatClampNeg) := inb_of S_b6 ⟨by decide, by decide⟩
  obtain ⟨T10, h10, X10, e10, W10, st10⟩ := stI X9 hx hZ e9 Ar_b6 (j := (3 : Int32)) hin71 (g := (mkF m 71 #[s0, s1, s2, s3, s4, s5, s6, s7, s8, s9, s10, s11, s12, .unset, s14, s15, s16, s17, s18, s19, s20, s21, s22, s23, s24] [(.int (0 : Int32)), (.int (3 : Int32)), (.ref b6), (.ref b6)])) rfl rfl (hb hby at_71)
  have V_b6_10 := Arv.set Ar_b6 q_b6 S_b6 N_b6 H_b6 G_b6 rfl W10 3 rfl (Nat.le_of_ble_eq_true rfl)
  have K10 : Keep h0 h10 [] := K9.wr W10 (Or.inr sz_b6)
  have N10 := Fr.snoc X10 N9 g_b6
  obtain ⟨cl_b6_75, Ar_b6, q_b6, S_b6, N_b6, H_b6, G_b6⟩ := V_b6_10
  have hin75 : ¬ ((4 : Int32) < 0 ∨ cl_b6_75.slots.size ≤ ((4 : Int32)).toNatClampNeg) := inb_of S_b6 ⟨by decide, by decide⟩
  obtain ⟨T11, h11, X11, e11, W11, st11⟩ := stI X10 hx hZ e10 Ar_b6 (j := (4 : Int32)) hin75 (g := (mkF m 75 #[s0, s1, s2, s3, s4, s5, s6, s7, s8, s9, s10, s11, s12, .unset, s14, s15, s16, s17, s18, s19, s20, s21, s22, s23, s24] [(.int (2 : Int32)), (.int (4 : Int32)), (.ref b6), (.ref b6)])) rfl rfl (hb hby at_75)
  have V_b6_11 := Arv.set Ar_b6 q_b6 S_b6 N_b6 H_b6 G_b6 rfl W11 4 rfl (Nat.le_of_ble_eq_true rfl)
  have K11 : Keep h0 h11 [] := K10.wr W11 (Or.inr sz_b6)
  have N11 := Fr.snoc X11 N10 g_b6
  obtain ⟨cl_b6_79, Ar_b6, q_b6, S_b6, N_b6, H_b6, G_b6⟩ := V_b6_11
  have hin79 : ¬ ((5 : Int32) < 0 ∨ cl_b6_79.slots.size ≤ ((5 : Int32)).toNatClampNeg) := inb_of S_b6 ⟨by decide, by decide⟩
  obtain ⟨T12, h12, X12, e12, W12, st12⟩ := stI X11 hx hZ e11 Ar_b6 (j := (5 : Int32)) hin79 (g := (mkF m 79 #[s0, s1, s2, s3, s4, s5, s6, s7, s8, s9, s10, s11, s12, .unset, s14, s15, s16, s17, s18, s19, s20, s21, s22, s23, s24] [(.int (1 : Int32)), (.int (5 : Int32)), (.ref b6), (.ref b6)])) rfl rfl (hb hby at_79)
  have V_b6_12 := Arv.set Ar_b6 q_b6 S_b6 N_b6 H_b6 G_b6 rfl W12 5 rfl (Nat.le_of_ble_eq_true rfl)
  have K12 : Keep h0 h12 [] := K11.wr W12 (Or.inr sz_b6)
  have N12 := Fr.snoc X12 N11 g_b6
  obtain ⟨cl_b6_84, Ar_b6, q_b6, S_b6, N_b6, H_b6, G_b6⟩ := V_b6_12
  have hin84 : ¬ ((6 : Int32) < 0 ∨ cl_b6_84.slots.size ≤ ((6 : Int32)).toNatClampNeg) := inb_of S_b6 ⟨by decide, by decide⟩
  obtain ⟨T13, h13, X13, e13, W13, st13⟩ := stI X12 hx hZ e12 Ar_b6 (j := (6 : Int32)) hin84 (g := (mkF m 84 #[s0, s1, s2, s3, s4, s5, s6, s7, s8, s9, s10, s11, s12, .unset, s14, s15, s16, s17, s18, s19, s20, s21, s22, s23, s24] [(.int (1 : Int32)), (.int (6 : Int32)), (.ref b6), (.ref b6)])) rfl rfl (hb hby at_84)
  have V_b6_13 := Arv.set Ar_b6 q_b6 S_b6 N_b6 H_b6 G_b6 rfl W13 6 rfl (Nat.le_of_ble_eq_true rfl)
  have K13 : Keep h0 h13 [] := K12.wr W13 (Or.inr sz_b6)
  have N13 := Fr.snoc X13 N12 g_b6
  obtain ⟨cl_b6_89, Ar_b6, q_b6, S_b6, N_b6, H_b6, G_b6⟩ := V_b6_13
  have hin89 : ¬ ((7 : Int32) < 0 ∨ cl_b6_89.slots.size ≤ ((7 : Int32)).toNatClampNeg) := inb_of S_b6 ⟨by decide, by decide⟩
  obtain ⟨T14, h14, X14, e14, W14, st14⟩ := stI X13 hx hZ e13 Ar_b6 (j := (7 : Int32)) hin89 (g := (mkF m 89 #[s0, s1, s2, s3, s4, s5, s6, s7, s8, s9, s10, s11, s12, .unset, s14, s15, s16, s17, s18, s19, s20, s21, s22, s23, s24] [(.int (0 : Int32)), (.int (7 : Int32)), (.ref b6), (.ref b6)])) rfl rfl (hb hby at_89)
  have V_b6_14 := Arv.set Ar_b6 q_b6 S_b6 N_b6 H_b6 G_b6 rfl W14 7 rfl (Nat.le_of_ble_eq_true rfl)
  have K14 : Keep h0 h14 [] := K13.wr W14 (Or.inr sz_b6)
  have N14 := Fr.snoc X14 N13 g_b6
  obtain ⟨cl_b6_94, Ar_b6, q_b6, S_b6, N_b6, H_b6, G_b6⟩ := V_b6_14
  have hin94 : ¬ ((8 : Int32) < 0 ∨ cl_b6_94.slots.size ≤ ((8 : Int32)).toNatClampNeg) := inb_of S_b6 ⟨by decide, by decide⟩
  obtain ⟨T15, h15, X15, e15, W15, st15⟩ := stI X14 hx hZ e14 Ar_b6 (j := (8 : Int32)) hin94 (g := (mkF m 94 #[s0, s1, s2, s3, s4, s5, s6, s7, s8, s9, s10, s11, s12, .unset, s14, s15, s16, s17, s18, s19, s20, s21, s22, s23, s24] [(.int (2 : Int32)), (.int (8 : Int32)), (.ref b6), (.ref b6)])) rfl rfl (hb hby at_94)
  have V_b6_15 := Arv.set Ar_b6 q_b6 S_b6 N_b6 H_b6 G_b6 rfl W15 8 rfl (Nat.le_of_ble_eq_true rfl)
  have K15 : Keep h0 h15 [] := K14.wr W15 (Or.inr sz_b6)
  have N15 := Fr.snoc X15 N14 g_b6
  obtain ⟨cl_b6_99, Ar_b6, q_b6, S_b6, N_b6, H_b6, G_b6⟩ := V_b6_15
  have hin99 : ¬ ((9 : Int32) < 0 ∨ cl_b6_99.slots.size ≤ ((9 : Int32)).toNatClampNeg) := inb_of S_b6 ⟨by decide, by decide⟩
  obtain ⟨T16, h16, X16, e16, W16, st16⟩ := stI X15 hx hZ e15 Ar_b6 (j := (9 : Int32)) hin99 (g := (mkF m 99 #[s0, s1, s2, s3, s4, s5, s6, s7, s8, s9, s10, s11, s12, .unset, s14, s15, s16, s17, s18, s19, s20, s21, s22, s23, s24] [(.int (1 : Int32)), (.int (9 : Int32)), (.ref b6), (.ref b6)])) rfl rfl (hb hby at_99)
  have V_b6_16 := Arv.set Ar_b6 q_b6 S_b6 N_b6 H_b6 G_b6 rfl W16 9 rfl (Nat.le_of_ble_eq_true rfl)
  have K16 : Keep h0 h16 [] := K15.wr W16 (Or.inr sz_b6)
  have N16 := Fr.snoc X16 N15 g_b6
  obtain ⟨cl_b6_104, Ar_b6, q_b6, S_b6, N_b6, H_b6, G_b6⟩ := V_b6_16
  have hin104 : ¬ ((10 : Int32) < 0 ∨ cl_b6_104.slots.size ≤ ((10 : Int32)).toNatClampNeg) := inb_of S_b6 ⟨by decide, by decide⟩
  obtain ⟨T17, h17, X17, e17, W17, st17⟩ := stI X16 hx hZ e16 Ar_b6 (j := (10 : Int32)) hin104 (g := (mkF m 104 #[s0, s1, s2, s3, s4, s5, s6, s7, s8, s9, s10, s11, s12, .unset, s14, s15, s16, s17, s18, s19, s20, s21, s22, s23, s24] [(.int (2 : Int32)), (.int (10 : Int32)), (.ref b6), (.ref b6)])) rfl rfl (hb hby at_104)
  have V_b6_17 := Arv.set Ar_b6 q_b6 S_b6 N_b6 H_b6 G_b6 rfl W17 10 rfl (Nat.le_of_ble_eq_true rfl)
  have K17 : Keep h0 h17 [] := K16.wr W17 (Or.inr sz_b6)
  have N17 := Fr.snoc X17 N16 g_b6
  obtain ⟨cl_b6_109, Ar_b6, q_b6, S_b6, N_b6, H_b6, G_b6⟩ := V_b6_17
  have hin109 : ¬ ((11 : Int32) < 0 ∨ cl_b6_109.slots.size ≤ ((11 : Int32)).toNatClampNeg) := inb_of S_b6 ⟨by decide, by decide⟩
  obtain ⟨T18, h18, X18, e18, W18, st18⟩ := stI X17 hx hZ e17 Ar_b6 (j := (11 : Int32)) hin109 (g := (mkF m 109 #[s0, s1, s2, s3, s4, s5, s6, s7, s8, s9, s10, s11, s12, .unset, s14, s15, s16, s17, s18, s19, s20, s21, s22, s23, s24] [(.int (0 : Int32)), (.int (11 : Int32)), (.ref b6), (.ref b6)])) rfl rfl (hb hby at_109)
  have V_b6_18 := Arv.set Ar_b6 q_b6 S_b6 N_b6 H_b6 G_b6 rfl W18 11 rfl (Nat.le_of_ble_eq_true rfl)
  have K18 : Keep h0 h18 [] := K17.wr W18 (Or.inr sz_b6)
  have N18 := Fr.snoc X18 N17 g_b6
  obtain ⟨cl_b6_114, Ar_b6, q_b6, S_b6, N_b6, H_b6, G_b6⟩ := V_b6_18
  have hin114 : ¬ ((12 : Int32) < 0 ∨ cl_b6_114.slots.size ≤ ((12 : Int32)).toNatClampNeg) := inb_of S_b6 ⟨by decide, by decide⟩
  obtain ⟨T19, h19, X19, e19, W19, st19⟩ := stI X18 hx hZ e18 Ar_b6 (j := (12 : Int32)) hin114 (g := (mkF m 114 #[s0, s1, s2, s3, s4, s5, s6, s7, s8, s9, s10, s11, s12, .unset, s14, s15, s16, s17, s18, s19, s20, s21, s22, s23, s24] [(.int (2 : Int32)), (.int (12 : Int32)), (.ref b6), (.ref b6)])) rfl rfl (hb hby at_114)
  have V_b6_19 := Arv.set Ar_b6 q_b6 S_b6 N_b6 H_b6 G_b6 rfl W19 12 rfl (Nat.le_of_ble_eq_true rfl)
  have K19 : Keep h0 h19 [] := K18.wr W19 (Or.inr sz_b6)
  have N19 := Fr.snoc X19 N18 g_b6
  obtain ⟨cl_b6_119, Ar_b6, q_b6, S_b6, N_b6, H_b6, G_b6⟩ := V_b6_19
  have hin119 : ¬ ((13 : Int32) < 0 ∨ cl_b6_119.slots.size ≤ ((13 : Int32)).toNatClampNeg) := inb_of S_b6 ⟨by decide, by decide⟩
  obtain ⟨T20, h20, X20, e20, W20, st20⟩ := stI X19 hx hZ e19 Ar_b6 (j := (13 : Int32)) hin119 (g := (mkF m 119 #[s0, s1, s2, s3, s4, s5, s6, s7, s8, s9, s10, s11, s12, .unset, s14, s15, s16, s17, s18, s19, s20, s21, s22, s23, s24] [(.int (0 : Int32)), (.int (13 : Int32)), (.ref b6), (.ref b6)])) rfl rfl (hb hby at_119)
  have V_b6_20 := Arv.set Ar_b6 q_b6 S_b6 N_b6 H_b6 G_b6 rfl W20 13 rfl (Nat.le_of_ble_eq_true rfl)
  have K20 : Keep h0 h20 [] := K19.wr W20 (Or.inr sz_b6)
  have N20 := Fr.snoc X20 N19 g_b6
  obtain ⟨cl_b6_124, Ar_b6, q_b6, S_b6, N_b6, H_b6, G_b6⟩ := V_b6_20
  have hin124 : ¬ ((14 : Int32) < 0 ∨ cl_b6_124.slots.size ≤ ((14 : Int32)).toNatClampNeg) := inb_of S_b6 ⟨by decide, by decide⟩
  obtain ⟨T21, h21, X21, e21, W21, st21⟩ := stI X20 hx hZ e20 Ar_b6 (j := (14 : Int32)) hin124 (g := (mkF m 124 #[s0, s1, s2, s3, s4, s5, s6, s7, s8, s9, s10, s11, s12, .unset, s14, s15, s16, s17, s18, s19, s20, s21, s22, s23, s24] [(.int (1 : Int32)), (.int (14 : Int32)), (.ref b6), (.ref b6)])) rfl rfl (hb hby at_124)
  have V_b6_21 := Arv.set Ar_b6 q_b6 S_b6 N_b6 H_b6 G_b6 rfl W21 14 rfl (Nat.le_of_ble_eq_true rfl)
  have K21 : Keep h0 h21 [] := K20.wr W21 (Or.inr sz_b6)
  have N21 := Fr.snoc X21 N20 g_b6
  obtain ⟨cl_b6_129, Ar_b6, q_b6, S_b6, N_b6, H_b6, G_b6⟩ := V_b6_21
  have hin129 : ¬ ((15 : Int32) < 0 ∨ cl_b6_129.slots.size ≤ ((15 : Int32)).toNatClampNeg) := inb_of S_b6 ⟨by decide, by decide⟩
  obtain ⟨T22, h22, X22, e22, W22, st22⟩ := stI X21 hx hZ e21 Ar_b6 (j := (15 : Int32)) hin129 (g := (mkF m 129 #[s0, s1, s2, s3, s4, s5, s6, s7, s8, s9, s10, s11, s12, .unset, s14, s15, s16, s17, s18, s19, s20, s21, s22, s23, s24] [(.int (2 : Int32)), (.int (15 : Int32)), (.ref b6), (.ref b6)])) rfl rfl (hb hby at_129)
  have V_b6_22 := Arv.set Ar_b6 q_b6 S_b6 N_b6 H_b6 G_b6 rfl W22 15 rfl (Nat.le_of_ble_eq_true rfl)
  have K22 : Keep h0 h22 [] := K21.wr W22 (Or.inr sz_b6)
  have N22 := Fr.snoc X22 N21 g_b6
  obtain ⟨cl_b6_134, Ar_b6, q_b6, S_b6, N_b6, H_b6, G_b6⟩ := V_b6_22
  have hin134 : ¬ ((16 : Int32) < 0 ∨ cl_b6_134.slots.size ≤ ((16 : Int32)).toNatClampNeg) := inb_of S_b6 ⟨by decide, by decide⟩
  obtain ⟨T23, h23, X23, e23, W23, st23⟩ := stI X22 hx hZ e22 Ar_b6 (j := (16 : Int32)) hin134 (g := (mkF m 134 #[s0, s1, s2, s3, s4, s5, s6, s7, s8, s9, s10, s11, s12, .unset, s14, s15, s16, s17, s18, s19, s20, s21, s22, s23, s24] [(.int (1 : Int32)), (.int (16 : Int32)), (.ref b6), (.ref b6)])) rfl rfl (hb hby at_134)
  have V_b6_23 := Arv.set Ar_b6 q_b6 S_b6 N_b6 H_b6 G_b6 rfl W23 16 rfl (Nat.le_of_ble_eq_true rfl)
  have K23 : Keep h0 h23 [] := K22.wr W23 (Or.inr sz_b6)
  have N23 := Fr.snoc X23 N22 g_b6
  obtain ⟨cl_b6_139, Ar_b6, q_b6, S_b6, N_b6, H_b6, G_b6⟩ := V_b6_23
  have hin139 : ¬ ((17 : Int32) < 0 ∨ cl_b6_139.slots.size ≤ ((17 : Int32)).toNatClampNeg) := inb_of S_b6 ⟨by decide, by decide⟩
  obtain ⟨T24, h24, X24, e24, W24, st24⟩ := stI X23 hx hZ e23 Ar_b6 (j := (17 : Int32)) hin139 (g := (mkF m 139 #[s0, s1, s2, s3, s4, s5, s6, s7, s8, s9, s10, s11, s12, .unset, s14, s15, s16, s17, s18, s19, s20, s21, s22, s23, s24] [(.int (0 : Int32)), (.int (17 : Int32)), (.ref b6), (.ref b6)])) rfl rfl (hb hby at_139)
  have V_b6_24 := Arv.set Ar_b6 q_b6 S_b6 N_b6 H_b6 G_b6 rfl W24 17 rfl (Nat.le_of_ble_eq_true rfl)
  have K24 : Keep h0 h24 [] := K23.wr W24 (Or.inr sz_b6)
  have N24 := Fr.snoc X24 N23 g_b6
  refine ⟨b6, T24, _, _, X24, e24, N24, (Nat.le_trans Z0 K24.1), ⟨own_AF.of V_b6_24 18 rfl _ (by decide), g_b6, K24⟩, fun target kt => ?_⟩
  show Steps p.tables e below (T0.setTop (mkF m 52 #[s0, s1, s2, s3, s4, s5, s6, s7, s8, s9, s10, s11, s12, .unset, s14, s15, s16, s17, s18, s19, s20, s21, s22, s23, s24] [])) _
  refine XS.bipush X0.here hx rfl (hb hby at_52) ?_
  show Steps p.tables e below (T0.setTop (mkF m 54 #[s0, s1, s2, s3, s4, s5, s6, s7, s8, s9, s10, s11, s12, .unset, s14, s15, s16, s17, s18, s19, s20, s21, s22, s23, s24] [(.int (18 : Int32))])) _
  refine st6 _ ?_
  show Steps p.tables e below (T6.setTop (mkF m 56 #[s0, s1, s2, s3, s4, s5, s6, s7, s8, s9, s10, s11, s12, .unset, s14, s15, s16, s17, s18, s19, s20, s21, s22, s23, s24] [(.ref b6)])) _
  refine XS.dup X6.here hx rfl (hb hby at_56) rfl rfl ?_
  show Steps p.tables e below (T6.setTop (mkF m 57 #[s0, s1, s2, s3, s4, s5, s6, s7, s8, s9, s10, s11, s12, .unset, s14, s15, s16, s17, s18, s19, s20, s21, s22, s23, s24] [(.ref b6), (.ref b6)])) _
  refine XS.iconst X6.here hx rfl (hb hby at_57) ?_
  show Steps p.tables e below (T6.setTop (mkF m 58 #[s0, s1, s2, s3, s4, s5, s6, s7, s8, s9, s10, s11, s12, .unset, s14, s15, s16, s17, s18, s19, s20, s21, s22, s23, s24] [(.int (0 : Int32)), (.ref b6), (.ref b6)])) _
  refine XS.iconst X6.here hx rfl (hb hby at_58) ?_
  show Steps p.tables e below (T6.setTop (mkF m 59 #[s0, s1, s2, s3, s4, s5, s6, s7, s8, s9, s10, s11, s12, .unset, s14, s15, s16, s17, s18, s19, s20, s21, s22, s23, s24] [(.int (0 : Int32)), (.int (0 : Int32)), (.ref b6), (.ref b6)])) _
  refine st7 _ ?_
  show Steps p.tables e below (T7.setTop (mkF m 60 #[s0, s1, s2, s3, s4, s5, s6, s7, s8, s9, s10, s11, s12, .unset, s14, s15, s16, s17, s18, s19, s20, s21, s22, s23, s24] [(.ref b6)])) _
  refine XS.dup X7.here hx rfl (hb hby at_60) rfl rfl ?_
  show Steps p.tables e below (T7.setTop (mkF m 61 #[s0, s1, s2, s3, s4, s5, s6, s7, s8, s9, s10, s11, s12, .unset, s14, s15, s16, s17, s18, s19, s20, s21, s22, s23, s24] [(.ref b6), (.ref b6)])) _
  refine XS.iconst X7.here hx rfl (hb hby at_61) ?_
  show Steps p.tables e below (T7.setTop (mkF m 62 #[s0, s1, s2, s3, s4, s5, s6, s7, s8, s9, s10, s11, s12, .unset, s14, s15, s16, s17, s18, s19, s20, s21, s22, s23, s24] [(.int (1 : Int32)), (.ref b6), (.ref b6)])) _
  refine XS.iconst X7.here hx rfl (hb hby at_62) ?_
  show Steps p.tables e below (T7.setTop (mkF m 63 #[s0, s1, s2, s3, s4, s5, s6, s7, s8, s9, s10, s11, s12, .unset, s14, s15, s16, s17, s18, s19, s20, s21, s22, s23, s24] [(.int (1 : Int32)), (.int (1 : Int32)), (.ref b6), (.ref b6)])) _
  refine st8 _ ?_
  show Steps p.tables e below (T8.setTop (mkF m 64 #[s0, s1, s2, s3, s4, s5, s6, s7, s8, s9, s10, s11, s12, .unset, s14, s15, s16, s17, s18, s19, s20, s21, s22, s23, s24] [(.ref b6)])) _
  refine XS.dup X8.here hx rfl (hb hby at_64) rfl rfl ?_
  show Steps p.tables e below (T8.setTop (mkF m 65 #[s0, s1, s2, s3, s4, s5, s6, s7, s8, s9, s10, s11, s12, .unset, s14, s15, s16, s17, s18, s19, s20, s21, s22, s23, s24] [(.ref b6), (.ref b6)])) _
  refine XS.iconst X8.here hx rfl (hb hby at_65) ?_
  show Steps p.tables e below (T8.setTop (mkF m 66 #[s0, s1, s2, s3, s4, s5, s6, s7, s8, s9, s10, s11, s12, .unset, s14, s15, s16, s17, s18, s19, s20, s21, s22, s23, s24] [(.int (2 : Int32)), (.ref b6), (.ref b6)])) _
  refine XS.iconst X8.here hx rfl (hb hby at_66) ?_
  show Steps p.tables e below (T8.setTop (mkF m 67 #[s0, s1, s2, s3, s4, s5, s6, s7, s8, s9, s10, s11, s12, .unset, s14, s15, s16, s17, s18, s19, s20, s21, s22, s23, s24] [(.int (2 : Int32)), (.int (2 : Int32)), (.ref b6), (.ref b6)])) _
  refine st9 _ ?_
  show Steps p.tables e below (T9.setTop (mkF m 68 #[s0, s1, s2, s3, s4, s5, s6, s7, s8, s9, s10, s11, s12, .unset, s14, s15, s16, s17, s18, s19, s20, s21, s22, s23, s24] [(.ref b6)])) _
  refine XS.dup X9.here hx rfl (hb hby at_68) rfl rfl ?_
  show Steps p.tables e below (T9.setTop (mkF m 69 #[s0, s1, s2, s3, s4, s5, s6, s7, s8, s9, s10, s11, s12, .unset, s14, s15, s16, s17, s18, s19, s20, s21, s22, s23, s24] [(.ref b6), (.ref b6)])) _
  refine XS.iconst X9.here hx rfl (hb hby at_69) ?_
  show Steps p.tables e below (T9.setTop (mkF m 70 #[s0, s1, s2, s3, s4, s5, s6, s7, s8, s9, s10, s11, s12, .unset, s14, s15, s16, s17, s18, s19, s20, s21, s22, s23, s24] [(.int (3 : Int32)), (.ref b6), (.ref b6)])) _
  refine XS.iconst X9.here hx rfl (hb hby at_70) ?_
  show Steps p.tables e below (T9.setTop (mkF m 71 #[s0, s1, s2, s3, s4, s5, s6, s7, s8, s9, s10, s11, s12, .unset, s14, s15, s16, s17, s18, s19, s20, s21, s22, s23, s24] [(.int (0 : Int32)), (.int (3 : Int32)), (.ref b6), (.ref b6)])) _
  refine st10 _ ?_
  show Steps p.tables e below (T10.setTop (mkF m 72 #[s0, s1, s2, s3, s4, s5, s6, s7, s8, s9, s10, s11, s12, .unset, s14, s15, s16, s17, s18, s19, s20, s21, s22, s23, s24] [(.ref b6)])) _
  refine XS.dup X10.here hx rfl (hb hby at_72) rfl rfl ?_
  show Steps p.tables e below (T10.setTop (mkF m 73 #[s0, s1, s2, s3, s4, s5, s6, s7, s8, s9, s10, s11, s12, .unset, s14, s15, s16, s17, s18, s19, s20, s21, s22, s23, s24] [(.ref b6), (.ref b6)])) _
  refine XS.iconst X10.here hx rfl (hb hby at_73) ?_
  show Steps p.tables e below (T10.setTop (mkF m 74 #[s0, s1, s2, s3, s4, s5, s6, s7, s8, s9, s10, s11, s12, .unset, s14, s15, s16, s17, s18, s19, s20, s21, s22, s23, s24] [(.int (4 : Int32)), (.ref b6), (.ref b6)])) _
  refine XS.iconst X10.here hx rfl (hb hby at_74) ?_
  show Steps p.tables e below (T10.setTop (mkF m 75 #[s0, s1, s2, s3, s4, s5, s6, s7, s8, s9, s10, s11, s12, .unset, s14, s15, s16, s17, s18, s19, s20, s21, s22, s23, s24] [(.int (2 : Int32)), (.int (4 : Int32)), (.ref b6), (.ref b6)])) _
  refine st11 _ ?_
  show Steps p.tables e below (T11.setTop (mkF m 76 #[s0, s1, s2, s3, s4, s5, s6, s7, s8, s9, s10, s11, s12, .unset, s14, s15, s16, s17, s18, s19, s20, s21, s22, s23, s24] [(.ref b6)])) _
  refine XS.dup X11.here hx rfl (hb hby at_76) rfl rfl ?_
  show Steps p.tables e below (T11.setTop (mkF m 77 #[s0, s1, s2, s3, s4, s5, s6, s7, s8, s9, s10, s11, s12, .unset, s14, s15, s16, s17, s18, s19, s20, s21, s22, s23, s24] [(.ref b6), (.ref b6)])) _
  refine XS.iconst X11.here hx rfl (hb hby at_77) ?_
  show Steps p.tables e below (T11.setTop (mkF m 78 #[s0, s1, s2, s3, s4, s5, s6, s7, s8, s9, s10, s11, s12, .unset, s14, s15, s16, s17, s18, s19, s20, s21, s22, s23, s24] [(.int (5 : Int32)), (.ref b6), (.ref b6)])) _
  refine XS.iconst X11.here hx rfl (hb hby at_78) ?_
  show Steps p.tables e below (T11.setTop (mkF m 79 #[s0, s1, s2, s3, s4, s5, s6, s7, s8, s9, s10, s11, s12, .unset, s14, s15, s16, s17, s18, s19, s20, s21, s22, s23, s24] [(.int (1 : Int32)), (.int (5 : Int32)), (.ref b6), (.ref b6)])) _
  refine st12 _ ?_
  show Steps p.tables e below (T12.setTop (mkF m 80 #[s0, s1, s2, s3, s4, s5, s6, s7, s8, s9, s10, s11, s12, .unset, s14, s15, s16, s17, s18, s19, s20, s21, s22, s23, s24] [(.ref b6)])) _
  refine XS.dup X12.here hx rfl (hb hby at_80) rfl rfl ?_
  show Steps p.tables e below (T12.setTop (mkF m 81 #[s0, s1, s2, s3, s4, s5, s6, s7, s8, s9, s10, s11, s12, .unset, s14, s15, s16, s17, s18, s19, s20, s21, s22, s23, s24] [(.ref b6), (.ref b6)])) _
  refine XS.bipush X12.here hx rfl (hb hby at_81) ?_
  show Steps p.tables e below (T12.setTop (mkF m 83 #[s0, s1, s2, s3, s4, s5, s6, s7, s8, s9, s10, s11, s12, .unset, s14, s15, s16, s17, s18, s19, s20, s21, s22, s23, s24] [(.int (6 : Int32)), (.ref b6), (.ref b6)])) _
  refine XS.iconst X12.here hx rfl (hb hby at_83) ?_
  show Steps p.tables e below (T12.setTop (mkF m 84 #[s0, s1, s2, s3, s4, s5, s6, s7, s8, s9, s10, s11, s12, .unset, s14, s15, s16, s17, s18, s19, s20, s21, s22, s23, s24] [(.int (1 : Int32)), (.int (6 : Int32)), (.ref b6), (.ref b6)])) _
  refine st13 _ ?_
  show Steps p.tables e below (T13.setTop (mkF m 85 #[s0, s1, s2, s3, s4, s5, s6, s7, s8, s9, s10, s11, s12, .unset, s14, s15, s16, s17, s18, s19, s20, s21, s22, s23, s24] [(.ref b6)])) _
  refine XS.dup X13.here hx rfl (hb hby at_85) rfl rfl ?_
  show Steps p.tables e below (T13.setTop (mkF m 86 #[s0, s1, s2, s3, s4, s5, s6, s7, s8, s9, s10, s11, s12, .unset, s14, s15, s16, s17, s18, s19, s20, s21, s22, s23, s24] [(.ref b6), (.ref b6)])) _
  refine XS.bipush X13.here hx rfl (hb hby at_86) ?_
  show Steps p.tables e below (T13.setTop (mkF m 88 #[s0, s1, s2, s3, s4, s5, s6, s7, s8, s9, s10, s11, s12, .unset, s14, s15, s16, s17, s18, s19, s20, s21, s22, s23, s24] [(.int (7 : Int32)), (.ref b6), (.ref b6)])) _
  refine XS.iconst X13.here hx rfl (hb hby at_88) ?_
  show Steps p.tables e below (T13.setTop (mkF m 89 #[s0, s1, s2, s3, s4, s5, s6, s7, s8, s9, s10, s11, s12, .unset, s14, s15, s16, s17, s18, s19, s20, s21, s22, s23, s24] [(.int (0 : Int32)), (.int (7 : Int32)), (.ref b6), (.ref b6)])) _
  refine st14 _ ?_
  show Steps p.tables e below (T14.setTop (mkF m 90 #[s0, s1, s2, s3, s4, s5, s6, s7, s8, s9, s10, s11, s12, .unset, s14, s15, s16, s17, s18, s19, s20, s21, s22, s23, s24] [(.ref b6)])) _
  refine XS.dup X14.here hx rfl (hb hby at_90) rfl rfl ?_
  show Steps p.tables e below (T14.setTop (mkF m 91 #[s0, s1, s2, s3, s4, s5, s6, s7, s8, s9, s10, s11, s12, .unset, s14, s15, s16, s17, s18, s19, s20, s21, s22, s23, s24] [(.ref b6), (.ref b6)])) _
  refine XS.bipush X14.here hx rfl (hb hby at_91) ?_
  show Steps p.tables e below (T14.setTop (mkF m 93 #[s0, s1, s2, s3, s4, s5, s6, s7, s8, s9, s10, s11, s12, .unset, s14, s15, s16, s17, s18, s19, s20, s21, s22, s23, s24] [(.int (8 : Int32)), (.ref b6), (.ref b6)])) _
  refine XS.iconst X14.here hx rfl (hb hby at_93) ?_
  show Steps p.tables e below (T14.setTop (mkF m 94 #[s0, s1, s2, s3, s4, s5, s6, s7, s8, s9, s10, s11, s12, .unset, s14, s15, s16, s17, s18, s19, s20, s21, s22, s23, s24] [(.int (2 : Int32)), (.int (8 : Int32)), (.ref b6), (.ref b6)])) _
  refine st15 _ ?_
  show Steps p.tables e below (T15.setTop (mkF m 95 #[s0, s1, s2, s3, s4, s5, s6, s7, s8, s9, s10, s11, s12, .unset, s14, s15, s16, s17, s18, s19, s20, s21, s22, s23, s24] [(.ref b6)])) _
  refine XS.dup X15.here hx rfl (hb hby at_95) rfl rfl ?_
  show Steps p.tables e below (T15.setTop (mkF m 96 #[s0, s1, s2, s3, s4, s5, s6, s7, s8, s9, s10, s11, s12, .unset, s14, s15, s16, s17, s18, s19, s20, s21, s22, s23, s24] [(.ref b6), (.ref b6)])) _
  refine XS.bipush X15.here hx rfl (hb hby at_96) ?_
  show Steps p.tables e below (T15.setTop (mkF m 98 #[s0, s1, s2, s3, s4, s5, s6, s7, s8, s9, s10, s11, s12, .unset, s14, s15, s16, s17, s18, s19, s20, s21, s22, s23, s24] [(.int (9 : Int32)), (.ref b6), (.ref b6)])) _
  refine XS.iconst X15.here hx rfl (hb hby at_98) ?_
  show Steps p.tables e below (T15.setTop (mkF m 99 #[s0, s1, s2, s3, s4, s5, s6, s7, s8, s9, s10, s11, s12, .unset, s14, s15, s16, s17, s18, s19, s20, s21, s22, s23, s24] [(.int (1 : Int32)), (.int (9 : Int32)), (.ref b6), (.ref b6)])) _
  refine st16 _ ?_
  show Steps p.tables e below (T16.setTop (mkF m 100 #[s0, s1, s2, s3, s4, s5, s6, s7, s8, s9, s10, s11, s12, .unset, s14, s15, s16, s17, s18, s19, s20, s21, s22, s23, s24] [(.ref b6)])) _
  refine XS.dup X16.here hx rfl (hb hby at_100) rfl rfl ?_
  show Steps p.tables e below (T16.setTop (mkF m 101 #[s0, s1, s2, s3, s4, s5, s6, s7, s8, s9, s10, s11, s12, .unset, s14, s15, s16, s17, s18, s19, s20, s21, s22, s23, s24] [(.ref b6), (.ref b6)])) _
  refine XS.bipush X16.here hx rfl (hb hby at_101) ?_
  show Steps p.tables e below (T16.setTop (mkF m 103 #[s0, s1, s2, s3, s4, s5, s6, s7, s8, s9, s10, s11, s12, .unset, s14, s15, s16, s17, s18, s19, s20, s21, s22, s23, s24] [(.int (10 : Int32)), (.ref b6), (.ref b6)])) _
  refine XS.iconst X16.here hx rfl (hb hby at_103) ?_
  show Steps p.tables e below (T16.setTop (mkF m 104 #[s0, s1, s2, s3, s4, s5, s6, s7, s8, s9, s10, s11, s12, .unset, s14, s15, s16, s17, s18, s19, s20, s21, s22, s23, s24] [(.int (2 : Int32)), (.int (10 : Int32)), (.ref b6), (.ref b6)])) _
  refine st17 _ ?_
  show Steps p.tables e below (T17.setTop (mkF m 105 #[s0, s1, s2, s3, s4, s5, s6, s7, s8, s9, s10, s11, s12, .unset, s14, s15, s16, s17, s18, s19, s20, s21, s22, s23, s24] [(.ref b6)])) _
  refine XS.dup X17.here hx rfl (hb hby at_105) rfl rfl ?_
  show Steps p.tables e below (T17.setTop (mkF m 106 #[s0, s1, s2, s3, s4, s5, s6, s7, s8, s9, s10, s11, s12, .unset, s14, s15, s16, s17, s18, s19, s20, s21, s22, s23, s24] [(.ref b6), (.ref b6)])) _
  refine XS.bipush X17.here hx rfl (hb hby at_106) ?_
  show Steps p.tables e below (T17.setTop (mkF m 108 #[s0, s1, s2, s3, s4, s5, s6, s7, s8, s9, s10, s11, s12, .unset, s14, s15, s16, s17, s18, s19, s20, s21, s22, s23, s24] [(.int (11 : Int32)), (.ref b6), (.ref b6)])) _
  refine XS.iconst X17.here hx rfl (hb hby at_108) ?_
  show Steps p.tables e below (T17.setTop (mkF m 109 #[s0, s1, s2, s3, s4, s5, s6, s7, s8, s9, s10, s11, s12, .unset, s14, s15, s16, s17, s18, s19, s20, s21, s22, s23, s24] [(.int (0 : Int32)), (.int (11 : Int32)), (.ref b6), (.ref b6)])) _
  refine st18 _ ?_
  show Steps p.tables e below (T18.setTop (mkF m 110 #[s0, s1, s2, s3, s4, s5, s6, s7, s8, s9, s10, s11, s12, .unset, s14, s15, s16, s17, s18, s19, s20, s21, s22, s23, s24] [(.ref b6)])) _
  refine XS.dup X18.here hx rfl (hb hby at_110) rfl rfl ?_
  show Steps p.tables e below (T18.setTop (mkF m 111 #[s0, s1, s2, s3, s4, s5, s6, s7, s8, s9, s10, s11, s12, .unset, s14, s15, s16, s17, s18, s19, s20, s21, s22, s23, s24] [(.ref b6), (.ref b6)])) _
  refine XS.bipush X18.here hx rfl (hb hby at_111) ?_
  show Steps p.tables e below (T18.setTop (mkF m 113 #[s0, s1, s2, s3, s4, s5, s6, s7, s8, s9, s10, s11, s12, .unset, s14, s15, s16, s17, s18, s19, s20, s21, s22, s23, s24] [(.int (12 : Int32)), (.ref b6), (.ref b6)])) _
  refine XS.iconst X18.here hx rfl (hb hby at_113) ?_
  show Steps p.tables e below (T18.setTop (mkF m 114 #[s0, s1, s2, s3, s4, s5, s6, s7, s8, s9, s10, s11, s12, .unset, s14, s15, s16, s17, s18, s19, s20, s21, s22, s23, s24] [(.int (2 : Int32)), (.int (12 : Int32)), (.ref b6), (.ref b6)])) _
  refine st19 _ ?_
  show Steps p.tables e below (T19.setTop (mkF m 115 #[s0, s1, s2, s3, s4, s5, s6, s7, s8, s9, s10, s11, s12, .unset, s14, s15, s16, s17, s18, s19, s20, s21, s22, s23, s24] [(.ref b6)])) _
  refine XS.dup X19.here hx rfl (hb hby at_115) rfl rfl ?_
  show Steps p.tables e below (T19.setTop (mkF m 116 #[s0, s1, s2, s3, s4, s5, s6, s7, s8, s9, s10, s11, s12, .unset, s14, s15, s16, s17, s18, s19, s20, s21, s22, s23, s24] [(.ref b6), (.ref b6)])) _
  refine XS.bipush X19.here hx rfl (hb hby at_116) ?_
  show Steps p.tables e below (T19.setTop (mkF m 118 #[s0, s1, s2, s3, s4, s5, s6, s7, s8, s9, s10, s11, s12, .unset, s14, s15, s16, s17, s18, s19, s20, s21, s22, s23, s24] [(.int (13 : Int32)), (.ref b6), (.ref b6)])) _
  refine XS.iconst X19.here hx rfl (hb hby at_118) ?_
  show Steps p.tables e below (T19.setTop (mkF m 119 #[s0, s1, s2, s3, s4, s5, s6, s7, s8, s9, s10, s11, s12, .unset, s14, s15, s16, s17, s18, s19, s20, s21, s22, s23, s24] [(.int (0 : Int32)), (.int (13 : Int32)), (.ref b6), (.ref b6)])) _
  refine st20 _ ?_
  show Steps p.tables e below (T20.setTop (mkF m 120 #[s0, s1, s2, s3, s4, s5, s6, s7, s8, s9, s10, s11, s12, .unset, s14, s15, s16, s17, s18, s19, s20, s21, s22, s23, s24] [(.ref b6)])) _
  refine XS.dup X20.here hx rfl (hb hby at_120) rfl rfl ?_
  show Steps p.tables e below (T20.setTop (mkF m 121 #[s0, s1, s2, s3, s4, s5, s6, s7, s8, s9, s10, s11, s12, .unset, s14, s15, s16, s17, s18, s19, s20, s21, s22, s23, s24] [(.ref b6), (.ref b6)])) _
  refine XS.bipush X20.here hx rfl (hb hby at_121) ?_
  show Steps p.tables e below (T20.setTop (mkF m 123 #[s0, s1, s2, s3, s4, s5, s6, s7, s8, s9, s10, s11, s12, .unset, s14, s15, s16, s17, s18, s19, s20, s21, s22, s23, s24] [(.int (14 : Int32)), (.ref b6), (.ref b6)])) _
  refine XS.iconst X20.here hx rfl (hb hby at_123) ?_
  show Steps p.tables e below (T20.setTop (mkF m 124 #[s0, s1, s2, s3, s4, s5, s6, s7, s8, s9, s10, s11, s12, .unset, s14, s15, s16, s17, s18, s19, s20, s21, s22, s23, s24] [(.int (1 : Int32)), (.int (14 : Int32)), (.ref b6), (.ref b6)])) _
  refine st21 _ ?_
  show Steps p.tables e below (T21.setTop (mkF m 125 #[s0, s1, s2, s3, s4, s5, s6, s7, s8, s9, s10, s11, s12, .unset, s14, s15, s16, s17, s18, s19, s20, s21, s22, s23, s24] [(.ref b6)])) _
  refine XS.dup X21.here hx rfl (hb hby at_125) rfl rfl ?_
  show Steps p.tables e below (T21.setTop (mkF m 126 #[s0, s1, s2, s3, s4, s5, s6, s7, s8, s9, s10, s11, s12, .unset, s14, s15, s16, s17, s18, s19, s20, s21, s22, s23, s24] [(.ref b6), (.ref b6)])) _
  refine XS.bipush X21.here hx rfl (hb hby at_126) ?_
  show Steps p.tables e below (T21.setTop (mkF m 128 #[s0, s1, s2, s3, s4, s5, s6, s7, s8, s9, s10, s11, s12, .unset, s14, s15, s16, s17, s18, s19, s20, s21, s22, s23, s24] [(.int (15 : Int32)), (.ref b6), (.ref b6)])) _
  refine XS.iconst X21.here hx rfl (hb hby at_128) ?_
  show Steps p.tables e below (T21.setTop (mkF m 129 #[s0, s1, s2, s3, s4, s5, s6, s7, s8, s9, s10, s11, s12, .unset, s14, s15, s16, s17, s18, s19, s20, s21, s22, s23, s24] [(.int (2 : Int32)), (.int (15 : Int32)), (.ref b6), (.ref b6)])) _
  refine st22 _ ?_
  show Steps p.tables e below (T22.setTop (mkF m 130 #[s0, s1, s2, s3, s4, s5, s6, s7, s8, s9, s10, s11, s12, .unset, s14, s15, s16, s17, s18, s19, s20, s21, s22, s23, s24] [(.ref b6)])) _
  refine XS.dup X22.here hx rfl (hb hby at_130) rfl rfl ?_
  show Steps p.tables e below (T22.setTop (mkF m 131 #[s0, s1, s2, s3, s4, s5, s6, s7, s8, s9, s10, s11, s12, .unset, s14, s15, s16, s17, s18, s19, s20, s21, s22, s23, s24] [(.ref b6), (.ref b6)])) _
  refine XS.bipush X22.here hx rfl (hb hby at_131) ?_
  show Steps p.tables e below (T22.setTop (mkF m 133 #[s0, s1, s2, s3, s4, s5, s6, s7, s8, s9, s10, s11, s12, .unset, s14, s15, s16, s17, s18, s19, s20, s21, s22, s23, s24] [(.int (16 : Int32)), (.ref b6), (.ref b6)])) _
  refine XS.iconst X22.here hx rfl (hb hby at_133) ?_
  show Steps p.tables e below (T22.setTop (mkF m 134 #[s0, s1, s2, s3, s4, s5, s6, s7, s8, s9, s10, s11, s12, .unset, s14, s15, s16, s17, s18, s19, s20, s21, s22, s23, s24] [(.int (1 : Int32)), (.int (16 : Int32)), (.ref b6), (.ref b6)])) _
  refine st23 _ ?_
  show Steps p.tables e below (T23.setTop (mkF m 135 #[s0, s1, s2, s3, s4, s5, s6, s7, s8, s9, s10, s11, s12, .unset, s14, s15, s16, s17, s18, s19, s20, s21, s22, s23, s24] [(.ref b6)])) _
  refine XS.dup X23.here hx rfl (hb hby at_135) rfl rfl ?_
  show Steps p.tables e below (T23.setTop (mkF m 136 #[s0, s1, s2, s3, s4, s5, s6, s7, s8, s9, s10, s11, s12, .unset, s14, s15, s16, s17, s18, s19, s20, s21, s22, s23, s24] [(.ref b6), (.ref b6)])) _
  refine XS.bipush X23.here hx rfl (hb hby at_136) ?_
  show Steps p.tables e below (T23.setTop (mkF m 138 #[s0, s1, s2, s3, s4, s5, s6, s7, s8, s9, s10, s11, s12, .unset, s14, s15, s16, s17, s18, s19, s20, s21, s22, s23, s24] [(.int (17 : Int32)), (.ref b6), (.ref b6)])) _
  refine XS.iconst X23.here hx rfl (hb hby at_138) ?_
  show Steps p.tables e below (T23.setTop (mkF m 139 #[s0, s1, s2, s3, s4, s5, s6, s7, s8, s9, s10, s11, s12, .unset, s14, s15, s16, s17, s18, s19, s20, s21, s22, s23, s24] [(.int (0 : Int32)), (.int (17 : Int32)), (.ref b6), (.ref b6)])) _
  refine st24 _ ?_
  show Steps p.tables e below (T24.setTop (mkF m 140 #[s0, s1, s2, s3, s4, s5, s6, s7, s8, s9, s10, s11, s12, .unset, s14, s15, s16, s17, s18, s19, s20, s21, s22, s23, s24] [(.ref b6)])) _
  refine XS.astore X24.here hx rfl (hb hby at_140) rfl rfl (l' := #[s0, s1, s2, s3, s4, s5, s6, s7, s8, s9, s10, s11, s12, .val (.ref b6), s14, s15, s16, s17, s18, s19, s20, s21, s22, s23, s24]) (os0_140 hs13) ?_
  exact kt
theorem os0_160 {s0 : Slot} {s1 : Slot} {s2 : Slot} {s3 : Slot} {s4 : Slot} {s5 : Slot} {s6 : Slot} {s7 : Slot} {s8 : Slot} {z9 : Value} {z10 : Value} {z11 : Value} {s12 : Slot} {s13 : Slot} {s14 : Slot} {s15 : Slot} {s16 : Slot} {s17 : Slot} {s18 : Slot} {s19 : Slot} {s20 : Slot} {s21 : Slot} {s22 : Slot} {s23 : Slot} {s24 : Slot} {v : Addr} (h : One s14) : storeLocals #[s0, s1, s2, s3, s4, s5, s6, s7, s8, .val z9, .val z10, .val z11, s12, s13, s14, s15, s16, s17, s18, s19, s20, s21, s22, s23, s24] 14 (.ref v) = some #[s0, s1, s2, s3, s4, s5, s6, s7, s8, .val z9, .val z10, .val z11, s12, s13, .val (.ref v), s15, s16, s17, s18, s19, s20, s21, s22, s23, s24] := by
  rcases h with rfl | ⟨w, rfl, hw⟩
  · rfl
  · cases w <;> first | rfl | (simp [Value.category] at hw)
set_option maxRecDepth 65536 in
set_option maxHeartbeats 40000000 in
theorem tn0_142_162 {p : Program} {l : Launch} {e : Env} {s : State} {m : MethodId} {args : Array Value} {below : List Frame} {meth : Method} {c : Code} {T0 : State} {locs : List Loc} {Z : State} {a0 : Array Value} {h0 : Heap} {n0 : Nat} (s0 : Slot) (s1 : Slot) (s2 : Slot) (s3 : Slot) (s4 : Slot) (s5 : Slot) (s6 : Slot) (s7 : Slot) (s8 : Slot) (L0 : Nat) (L1 : Nat) (L2 : Nat) (s12 : Slot) (s13 : Slot) (s15 : Slot) (s16 : Slot) (s17 : Slot) (s18 : Slot) (s19 : Slot) (s20 : Slot) (s21 : Slot) (s22 : Slot) (s23 : Slot) (s24 : Slot)
    (X0 : Stand p l e room_1 s m args below meth c T0 locs 1 18) (hx : p.tables.exec = Jvm.exec) (hZ : Z.Warmed39 s.vm) (hw : ∀ d ∈ tables_1, d.before a0 Z = true) (hby : c.code = code) (hml : c.maxLocals = 25) (hown : s.vm.findClass "com/example/upweight/upweight/HeldTermsAddPinLaw" = some m.cls) (e0 : T0.heap = h0) (N0 : Fr n0 locs) (Z0 : n0 ≤ h0.size) (hs14 : One .unset) :
    ∃ (b6 : Addr) (T' : State) (h' : Heap) (locs' : List Loc), Stand p l e room_1 s m args below meth c T' locs' (1 + 1) (18 + 3) ∧ T'.heap = h' ∧ Fr n0 locs' ∧ n0 ≤ h'.size ∧ (own_AF Z h' b6 .int 3 (fun j => .int (Int32.ofNat (if j = 0 then L0 else if j = 1 then L1 else L2))) ∧ n0 ≤ b6 ∧ Keep h0 h' []) ∧
      ∀ target, Steps p.tables e below (T'.setTop (mkF m 162 #[s0, s1, s2, s3, s4, s5, s6, s7, s8, .val (.int (Int32.ofNat L0)), .val (.int (Int32.ofNat L1)), .val (.int (Int32.ofNat L2)), s12, s13, .val (.ref b6), s15, s16, s17, s18, s19, s20, s21, s22, s23, s24] [])) target → Steps p.tables e below (T0.setTop (mkF m 142 #[s0, s1, s2, s3, s4, s5, s6, s7, s8, .val (.int (Int32.ofNat L0)), .val (.int (Int32.ofNat L1)), .val (.int (Int32.ofNat L2)), s12, s13, .unset, s15, s16, s17, s18, s19, s20, s21, s22, s23, s24] [])) target := by
  obtain ⟨T6, h6, k6, X6, e6, E6, A6, st6⟩ := newP X0 hx hZ (hw _ (List.mem_of_getElem? (i := 1) rfl)) e0 (g := (mkF m 143 #[s0, s1, s2, s3, s4, s5, s6, s7, s8, .val (.int (Int32.ofNat L0)), .val (.int (Int32.ofNat L1)), .val (.int (Int32.ofNat L2)), s12, s13, .unset, s15, s16, s17, s18, s19, s20, s21, s22, s23, s24] [(.int (3 : Int32))])) rfl (hb hby at_143) rfl (by decide) (cap := 3) (by decide) (by decide) (by decide) (by decide)
  obtain ⟨b6, g6⟩ : ∃ z, z = h0.size := ⟨_, rfl⟩
  rw [← g6] at A6 st6
  have V_b6 : Arv Z h6 b6 k6 .int (3 : Int32) [(.int (0 : Int32)), (.int (0 : Int32)), (.int (0 : Int32))] (.int (0 : Int32)) := (Arv.new A6 (by decide)).pad (pad_rep [] (.int (0 : Int32)) 3)
  have g_b6 : n0 ≤ b6 := Nat.le_trans Z0 (Nat.le_of_eq g6.symm)
  have sz_b6 : h0.size ≤ b6 := (Nat.le_trans (Keep.refl h0 []).1 (Nat.le_of_eq g6.symm))
  have K6 : Keep h0 h6 [] := (Keep.refl h0 []).ext E6
  obtain ⟨cl_b6_149, Ar_b6, q_b6, S_b6, N_b6, H_b6, G_b6⟩ := V_b6
  have hin149 : ¬ ((0 : Int32) < 0 ∨ cl_b6_149.slots.size ≤ ((0 : Int32)).toNatClampNeg) := inb_of S_b6 ⟨by decide, by decide⟩
  obtain ⟨T7, h7, X7, e7, W7, st7⟩ := stI X6 hx hZ e6 Ar_b6 (j := (0 : Int32)) hin149 (g := (mkF m 149 #[s0, s1, s2, s3, s4, s5, s6, s7, s8, .val (.int (Int32.ofNat L0)), .val (.int (Int32.ofNat L1)), .val (.int (Int32.ofNat L2)), s12, s13, .unset, s15, s16, s17, s18, s19, s20, s21, s22, s23, s24] [(.int (Int32.ofNat L0)), (.int (0 : Int32)), (.ref b6), (.ref b6)])) rfl rfl (hb hby at_149)
  have V_b6_7 := Arv.set Ar_b6 q_b6 S_b6 N_b6 H_b6 G_b6 rfl W7 0 rfl (Nat.le_of_ble_eq_true rfl)
  have K7 : Keep h0 h7 [] := K6.wr W7 (Or.inr sz_b6)
  have N7 := Fr.snoc X7 N0 g_b6
  obtain ⟨cl_b6_154, Ar_b6, q_b6, S_b6, N_b6, H_b6, G_b6⟩ := V_b6_7
  have hin154 : ¬ ((1 : Int32) < 0 ∨ cl_b6_154.slots.size ≤ ((1 : Int32)).toNatClampNeg) := inb_of S_b6 ⟨by decide, by decide⟩
  obtain ⟨T8, h8, X8, e8, W8, st8⟩ := stI X7 hx hZ e7 Ar_b6 (j := (1 : Int32)) hin154 (g := (mkF m 154 #[s0, s1, s2, s3, s4, s5, s6, s7, s8, .val (.int (Int32.ofNat L0)), .val (.int (Int32.ofNat L1)), .val (.int (Int32.ofNat L2)), s12, s13, .unset, s15, s16, s17, s18, s19, s20, s21, s22, s23, s24] [(.int (Int32.ofNat L1)), (.int (1 : Int32)), (.ref b6), (.ref b6)])) rfl rfl (hb hby at_154)
  have V_b6_8 := Arv.set Ar_b6 q_b6 S_b6 N_b6 H_b6 G_b6 rfl W8 1 rfl (Nat.le_of_ble_eq_true rfl)
  have K8 : Keep h0 h8 [] := K7.wr W8 (Or.inr sz_b6)
  have N8 := Fr.snoc X8 N7 g_b6
  obtain ⟨cl_b6_159, Ar_b6, q_b6, S_b6, N_b6, H_b6, G_b6⟩ := V_b6_8
  have hin159 : ¬ ((2 : Int32) < 0 ∨ cl_b6_159.slots.size ≤ ((2 : Int32)).toNatClampNeg) := inb_of S_b6 ⟨by decide, by decide⟩
  obtain ⟨T9, h9, X9, e9, W9, st9⟩ := stI X8 hx hZ e8 Ar_b6 (j := (2 : Int32)) hin159 (g := (mkF m 159 #[s0, s1, s2, s3, s4, s5, s6, s7, s8, .val (.int (Int32.ofNat L0)), .val (.int (Int32.ofNat L1)), .val (.int (Int32.ofNat L2)), s12, s13, .unset, s15, s16, s17, s18, s19, s20, s21, s22, s23, s24] [(.int (Int32.ofNat L2)), (.int (2 : Int32)), (.ref b6), (.ref b6)])) rfl rfl (hb hby at_159)
  have V_b6_9 := Arv.set Ar_b6 q_b6 S_b6 N_b6 H_b6 G_b6 rfl W9 2 rfl (Nat.le_of_ble_eq_true rfl)
  have K9 : Keep h0 h9 [] := K8.wr W9 (Or.inr sz_b6)
  have N9 := Fr.snoc X9 N8 g_b6
  refine ⟨b6, T9, _, _, X9, e9, N9, (Nat.le_trans Z0 K9.1), ⟨own_AF.of V_b6_9 3 rfl _ (fun j hj => by match j, hj with | 0, _ => rfl | 1, _ => rfl | 2, _ => rfl), g_b6, K9⟩, fun target kt => ?_⟩
  show Steps p.tables e below (T0.setTop (mkF m 142 #[s0, s1, s2, s3, s4, s5, s6, s7, s8, .val (.int (Int32.ofNat L0)), .val (.int (Int32.ofNat L1)), .val (.int (Int32.ofNat L2)), s12, s13, .unset, s15, s16, s17, s18, s19, s20, s21, s22, s23, s24] [])) _
  refine XS.iconst X0.here hx rfl (hb hby at_142) ?_
  show Steps p.tables e below (T0.setTop (mkF m 143 #[s0, s1, s2, s3, s4, s5, s6, s7, s8, .val (.int (Int32.ofNat L0)), .val (.int (Int32.ofNat L1)), .val (.int (Int32.ofNat L2)), s12, s13, .unset, s15, s16, s17, s18, s19, s20, s21, s22, s23, s24] [(.int (3 : Int32))])) _
  refine st6 _ ?_
  show Steps p.tables e below (T6.setTop (mkF m 145 #[s0, s1, s2, s3, s4, s5, s6, s7, s8, .val (.int (Int32.ofNat L0)), .val (.int (Int32.ofNat L1)), .val (.int (Int32.ofNat L2)), s12, s13, .unset, s15, s16, s17, s18, s19, s20, s21, s22, s23, s24] [(.ref b6)])) _
  refine XS.dup X6.here hx rfl (hb hby at_145) rfl rfl ?_
  show Steps p.tables e below (T6.setTop (mkF m 146 #[s0, s1, s2, s3, s4, s5, s6, s7, s8, .val (.int (Int32.ofNat L0)), .val (.int (Int32.ofNat L1)), .val (.int (Int32.ofNat L2)), s12, s13, .unset, s15, s16, s17, s18, s19, s20, s21, s22, s23, s24] [(.ref b6), (.ref b6)])) _
  refine XS.iconst X6.here hx rfl (hb hby at_146) ?_
  show Steps p.tables e below (T6.setTop (mkF m 147 #[s0, s1, s2, s3, s4, s5, s6, s7, s8, .val (.int (Int32.ofNat L0)), .val (.int (Int32.ofNat L1)), .val (.int (Int32.ofNat L2)), s12, s13, .unset, s15, s16, s17, s18, s19, s20, s21, s22, s23, s24] [(.int (0 : Int32)), (.ref b6), (.ref b6)])) _
  refine XS.iload X6.here hx rfl (hb hby at_147) rfl ?_
  show Steps p.tables e below (T6.setTop (mkF m 149 #[s0, s1, s2, s3, s4, s5, s6, s7, s8, .val (.int (Int32.ofNat L0)), .val (.int (Int32.ofNat L1)), .val (.int (Int32.ofNat L2)), s12, s13, .unset, s15, s16, s17, s18, s19, s20, s21, s22, s23, s24] [(.int (Int32.ofNat L0)), (.int (0 : Int32)), (.ref b6), (.ref b6)])) _
  refine st7 _ ?_
  show Steps p.tables e below (T7.setTop (mkF m 150 #[s0, s1, s2, s3, s4, s5, s6, s7, s8, .val (.int (Int32.ofNat L0)), .val (.int (Int32.ofNat L1)), .val (.int (Int32.ofNat L2)), s12, s13, .unset, s15, s16, s17, s18, s19, s20, s21, s22, s23, s24] [(.ref b6)])) _
  refine XS.dup X7.here hx rfl (hb hby at_150) rfl rfl ?_
  show Steps p.tables e below (T7.setTop (mkF m 151 #[s0, s1, s2, s3, s4, s5, s6, s7, s8, .val (.int (Int32.ofNat L0)), .val (.int (Int32.ofNat L1)), .val (.int (Int32.ofNat L2)), s12, s13, .unset, s15, s16, s17, s18, s19, s20, s21, s22, s23, s24] [(.ref b6), (.ref b6)])) _
  refine XS.iconst X7.here hx rfl (hb hby at_151) ?_
  show Steps p.tables e below (T7.setTop (mkF m 152 #[s0, s1, s2, s3, s4, s5, s6, s7, s8, .val (.int (Int32.ofNat L0)), .val (.int (Int32.ofNat L1)), .val (.int (Int32.ofNat L2)), s12, s13, .unset, s15, s16, s17, s18, s19, s20, s21, s22, s23, s24] [(.int (1 : Int32)), (.ref b6), (.ref b6)])) _
  refine XS.iload X7.here hx rfl (hb hby at_152) rfl ?_
  show Steps p.tables e below (T7.setTop (mkF m 154 #[s0, s1, s2, s3, s4, s5, s6, s7, s8, .val (.int (Int32.ofNat L0)), .val (.int (Int32.ofNat L1)), .val (.int (Int32.ofNat L2)), s12, s13, .unset, s15, s16, s17, s18, s19, s20, s21, s22, s23, s24] [(.int (Int32.ofNat L1)), (.int (1 : Int32)), (.ref b6), (.ref b6)])) _
  refine st8 _ ?_
  show Steps p.tables e below (T8.setTop (mkF m 155 #[s0, s1, s2, s3, s4, s5, s6, s7, s8, .val (.int (Int32.ofNat L0)), .val (.int (Int32.ofNat L1)), .val (.int (Int32.ofNat L2)), s12, s13, .unset, s15, s16, s17, s18, s19, s20, s21, s22, s23, s24] [(.ref b6)])) _
  refine XS.dup X8.here hx rfl (hb hby at_155) rfl rfl ?_
  show Steps p.tables e below (T8.setTop (mkF m 156 #[s0, s1, s2, s3, s4, s5, s6, s7, s8, .val (.int (Int32.ofNat L0)), .val (.int (Int32.ofNat L1)), .val (.int (Int32.ofNat L2)), s12, s13, .unset, s15, s16, s17, s18, s19, s20, s21, s22, s23, s24] [(.ref b6), (.ref b6)])) _
  refine XS.iconst X8.here hx rfl (hb hby at_156) ?_
  show Steps p.tables e below (T8.setTop (mkF m 157 #[s0, s1, s2, s3, s4, s5, s6, s7, s8, .val (.int (Int32.ofNat L0)), .val (.int (Int32.ofNat L1)), .val (.int (Int32.ofNat L2)), s12, s13, .unset, s15, s16, s17, s18, s19, s20, s21, s22, s23, s24] [(.int (2 : Int32)), (.ref b6), (.ref b6)])) _
  refine XS.iload X8.here hx rfl (hb hby at_157) rfl ?_
  show Steps p.tables e below (T8.setTop (mkF m 159 #[s0, s1, s2, s3, s4, s5, s6, s7, s8, .val (.int (Int32.ofNat L0)), .val (.int (Int32.ofNat L1)), .val (.int (Int32.ofNat L2)), s12, s13, .unset, s15, s16, s17, s18, s19, s20, s21, s22, s23, s24] [(.int (Int32.ofNat L2)), (.int (2 : Int32)), (.ref b6), (.ref b6)])) _
  refine st9 _ ?_
  show Steps p.tables e below (T9.setTop (mkF m 160 #[s0, s1, s2, s3, s4, s5, s6, s7, s8, .val (.int (Int32.ofNat L0)), .val (.int (Int32.ofNat L1)), .val (.int (Int32.ofNat L2)), s12, s13, .unset, s15, s16, s17, s18, s19, s20, s21, s22, s23, s24] [(.ref b6)])) _
  refine XS.astore X9.here hx rfl (hb hby at_160) rfl rfl (l' := #[s0, s1, s2, s3, s4, s5, s6, s7, s8, .val (.int (Int32.ofNat L0)), .val (.int (Int32.ofNat L1)), .val (.int (Int32.ofNat L2)), s12, s13, .val (.ref b6), s15, s16, s17, s18, s19, s20, s21, s22, s23, s24]) (os0_160 hs14) ?_
  exact kt
theorem os0_172 {s0 : Slot} {s1 : Slot} {s2 : Slot} {s3 : Slot} {s4 : Slot} {s5 : Slot} {s6 : Slot} {s7 : Slot} {s8 : Slot} {s9 : Slot} {s10 : Slot} {s11 : Slot} {z12 : Value} {z13 : Value} {z14 : Value} {s15 : Slot} {s16 : Slot} {s17 : Slot} {s18 : Slot} {s19 : Slot} {s20 : Slot} {s21 : Slot} {s22 : Slot} {s23 : Slot} {s24 : Slot} {v : Int32} (h : One s15) : storeLocals #[s0, s1, s2, s3, s4, s5, s6, s7, s8, s9, s10, s11, .val z12, .val z13, .val z14, s15, s16, s17, s18, s19, s20, s21, s22, s23, s24] 15 (.int v) = some #[s0, s1, s2, s3, s4, s5, s6, s7, s8, s9, s10, s11, .val z12, .val z13, .val z14, .val (.int v), s16, s17, s18, s19, s20, s21, s22, s23, s24] := by
  rcases h with rfl | ⟨w, rfl, hw⟩
  · rfl
  · cases w <;> first | rfl | (simp [Value.category] at hw)
theorem os0_186 {s0 : Slot} {s1 : Slot} {s2 : Slot} {s3 : Slot} {s4 : Slot} {s5 : Slot} {s6 : Slot} {s7 : Slot} {s8 : Slot} {s9 : Slot} {s10 : Slot} {s11 : Slot} {z12 : Value} {z13 : Value} {z14 : Value} {z15 : Value} {s16 : Slot} {s17 : Slot} {s18 : Slot} {s19 : Slot} {s20 : Slot} {s21 : Slot} {s22 : Slot} {s23 : Slot} {s24 : Slot} {v : Int32} (h : One s16) : storeLocals #[s0, s1, s2, s3, s4, s5, s6, s7, s8, s9, s10, s11, .val z12, .val z13, .val z14, .val z15, s16, s17, s18, s19, s20, s21, s22, s23, s24] 16 (.int v) = some #[s0, s1, s2, s3, s4, s5, s6, s7, s8, s9, s10, s11, .val z12, .val z13, .val z14, .val z15, .val (.int v), s17, s18, s19, s20, s21, s22, s23, s24] := by
  rcases h with rfl | ⟨w, rfl, hw⟩
  · rfl
  · cases w <;> first | rfl | (simp [Value.category] at hw)
theorem os0_200 {s0 : Slot} {s1 : Slot} {s2 : Slot} {s3 : Slot} {s4 : Slot} {s5 : Slot} {s6 : Slot} {s7 : Slot} {s8 : Slot} {s9 : Slot} {s10 : Slot} {s11 : Slot} {z12 : Value} {z13 : Value} {z14 : Value} {z15 : Value} {z16 : Value} {s17 : Slot} {s18 : Slot} {s19 : Slot} {s20 : Slot} {s21 : Slot} {s22 : Slot} {s23 : Slot} {s24 : Slot} {v : Int32} (h : One s17) : storeLocals #[s0, s1, s2, s3, s4, s5, s6, s7, s8, s9, s10, s11, .val z12, .val z13, .val z14, .val z15, .val z16, s17, s18, s19, s20, s21, s22, s23, s24] 17 (.int v) = some #[s0, s1, s2, s3, s4, s5, s6, s7, s8, s9, s10, s11, .val z12, .val z13, .val z14, .val z15, .val z16, .val (.int v), s18, s19, s20, s21, s22, s23, s24] := by
  rcases h with rfl | ⟨w, rfl, hw⟩
  · rfl
  · cases w <;> first | rfl | (simp [Value.category] at hw)
set_option maxRecDepth 65536 in
set_option maxHeartbeats 40000000 in
theorem tn0_162_202 {p : Program} {l : Launch} {e : Env} {R : Room} {s : State} {m : MethodId} {args : Array Value} {below : List Frame} {meth : Method} {c : Code} {T0 : State} {locs : List Loc} {cells slots : Nat} {Z : State} {a0 : Array Value} {h0 : Heap} (s0 : Slot) (s1 : Slot) (s2 : Slot) (s3 : Slot) (s4 : Slot) (s5 : Slot) (s6 : Slot) (s7 : Slot) (s8 : Slot) (s9 : Slot) (s10 : Slot) (s11 : Slot) (i12 : Int32) (o13 : Addr) (o14 : Addr) (s18 : Slot) (s19 : Slot) (s20 : Slot) (s21 : Slot) (s22 : Slot) (s23 : Slot) (s24 : Slot) (w6 : Int32) (cl_o13 : Cell) (w7 : Int32) (cl_o14 : Cell) (w8 : Int32) (w9 : Int32) (w10 : Int32) (w11 : Int32)
    (X0 : Stand p l e R s m args below meth c T0 locs cells slots) (hx : p.tables.exec = Jvm.exec) (hZ : Z.Warmed39 s.vm) (hw : ∀ d ∈ tables_1, d.before a0 Z = true) (hby : c.code = code) (hml : c.maxLocals = 25) (hown : s.vm.findClass "com/example/upweight/upweight/HeldTermsAddPinLaw" = some m.cls) (e0 : T0.heap = h0) (Ar_o13 : Arr Z h0 o13 cl_o13 .int) (hin170 : ¬ (((3 : Int32) * i12) < 0 ∨ cl_o13.slots.size ≤ (((3 : Int32) * i12)).toNatClampNeg)) (hat170 : cl_o13.slots[(((3 : Int32) * i12)).toNatClampNeg]? = some (.int w6)) (Ar_o14 : Arr Z h0 o14 cl_o14 .int) (hin171 : ¬ (w6 < 0 ∨ cl_o14.slots.size ≤ (w6).toNatClampNeg)) (hat171 : cl_o14.slots[(w6).toNatClampNeg]? = some (.int w7)) (hs15 : One .unset) (hin184 : ¬ ((((3 : Int32) * i12) + (1 : Int32)) < 0 ∨ cl_o13.slots.size ≤ ((((3 : Int32) * i12) + (1 : Int32))).toNatClampNeg)) (hat184 : cl_o13.slots[((((3 : Int32) * i12) + (1 : Int32))).toNatClampNeg]? = some (.int w8)) (hin185 : ¬ (w8 < 0 ∨ cl_o14.slots.size ≤ (w8).toNatClampNeg)) (hat185 : cl_o14.slots[(w8).toNatClampNeg]? = some (.int w9)) (hs16 : One .unset) (hin198 : ¬ ((((3 : Int32) * i12) + (2 : Int32)) < 0 ∨ cl_o13.slots.size ≤ ((((3 : Int32) * i12) + (2 : Int32))).toNatClampNeg)) (hat198 : cl_o13.slots[((((3 : Int32) * i12) + (2 : Int32))).toNatClampNeg]? = some (.int w10)) (hin199 : ¬ (w10 < 0 ∨ cl_o14.slots.size ≤ (w10).toNatClampNeg)) (hat199 : cl_o14.slots[(w10).toNatClampNeg]? = some (.int w11)) (hs17 : One .unset) :
    ∃ (T' : State), Stand p l e R s m args below meth c T' locs cells slots ∧ T'.heap = h0 ∧
      ∀ target, Steps p.tables e below (T'.setTop (mkF m 202 #[s0, s1, s2, s3, s4, s5, s6, s7, s8, s9, s10, s11, .val (.int i12), .val (.ref o13), .val (.ref o14), .val (.int w7), .val (.int w9), .val (.int w11), s18, s19, s20, s21, s22, s23, s24] [])) target → Steps p.tables e below (T0.setTop (mkF m 162 #[s0, s1, s2, s3, s4, s5, s6, s7, s8, s9, s10, s11, .val (.int i12), .val (.ref o13), .val (.ref o14), .unset, .unset, .unset, s18, s19, s20, s21, s22, s23, s24] [])) target := by

  refine ⟨T0, X0, e0, fun target kt => ?_⟩
  show Steps p.tables e below (T0.setTop (mkF m 162 #[s0, s1, s2, s3, s4, s5, s6, s7, s8, s9, s10, s11, .val (.int i12), .val (.ref o13), .val (.ref o14), .unset, .unset, .unset, s18, s19, s20, s21, s22, s23, s24] [])) _
  refine XS.aload X0.here hx rfl (hb hby at_162) rfl rfl ?_
  show Steps p.tables e below (T0.setTop (mkF m 164 #[s0, s1, s2, s3, s4, s5, s6, s7, s8, s9, s10, s11, .val (.int i12), .val (.ref o13), .val (.ref o14), .unset, .unset, .unset, s18, s19, s20, s21, s22, s23, s24] [(.ref o14)])) _
  refine XS.aload X0.here hx rfl (hb hby at_164) rfl rfl ?_
  show Steps p.tables e below (T0.setTop (mkF m 166 #[s0, s1, s2, s3, s4, s5, s6, s7, s8, s9, s10, s11, .val (.int i12), .val (.ref o13), .val (.ref o14), .unset, .unset, .unset, s18, s19, s20, s21, s22, s23, s24] [(.ref o13), (.ref o14)])) _
  refine XS.iconst X0.here hx rfl (hb hby at_166) ?_
  show Steps p.tables e below (T0.setTop (mkF m 167 #[s0, s1, s2, s3, s4, s5, s6, s7, s8, s9, s10, s11, .val (.int i12), .val (.ref o13), .val (.ref o14), .unset, .unset, .unset, s18, s19, s20, s21, s22, s23, s24] [(.int (3 : Int32)), (.ref o13), (.ref o14)])) _
  refine XS.iload X0.here hx rfl (hb hby at_167) rfl ?_
  show Steps p.tables e below (T0.setTop (mkF m 169 #[s0, s1, s2, s3, s4, s5, s6, s7, s8, s9, s10, s11, .val (.int i12), .val (.ref o13), .val (.ref o14), .unset, .unset, .unset, s18, s19, s20, s21, s22, s23, s24] [(.int i12), (.int (3 : Int32)), (.ref o13), (.ref o14)])) _
  refine XS.imul X0.here hx rfl (hb hby at_169) rfl ?_
  show Steps p.tables e below (T0.setTop (mkF m 170 #[s0, s1, s2, s3, s4, s5, s6, s7, s8, s9, s10, s11, .val (.int i12), .val (.ref o13), .val (.ref o14), .unset, .unset, .unset, s18, s19, s20, s21, s22, s23, s24] [(.int ((3 : Int32) * i12)), (.ref o13), (.ref o14)])) _
  refine X0.iaload hx (j := ((3 : Int32) * i12)) (v := (.int w6)) (by rw [e0]; exact Ar_o13.1) (State.isArrayOf_alike hZ.alike Ar_o13.2.1) Ar_o13.2.2 hin170 hat170 (g := (mkF m 170 #[s0, s1, s2, s3, s4, s5, s6, s7, s8, s9, s10, s11, .val (.int i12), .val (.ref o13), .val (.ref o14), .unset, .unset, .unset, s18, s19, s20, s21, s22, s23, s24] [(.int ((3 : Int32) * i12)), (.ref o13), (.ref o14)])) rfl rfl (hb hby at_170) _ ?_
  show Steps p.tables e below (T0.setTop (mkF m 171 #[s0, s1, s2, s3, s4, s5, s6, s7, s8, s9, s10, s11, .val (.int i12), .val (.ref o13), .val (.ref o14), .unset, .unset, .unset, s18, s19, s20, s21, s22, s23, s24] [(.int w6), (.ref o14)])) _
  refine X0.iaload hx (j := w6) (v := (.int w7)) (by rw [e0]; exact Ar_o14.1) (State.isArrayOf_alike hZ.alike Ar_o14.2.1) Ar_o14.2.2 hin171 hat171 (g := (mkF m 171 #[s0, s1, s2, s3, s4, s5, s6, s7, s8, s9, s10, s11, .val (.int i12), .val (.ref o13), .val (.ref o14), .unset, .unset, .unset, s18, s19, s20, s21, s22, s23, s24] [(.int w6), (.ref o14)])) rfl rfl (hb hby at_171) _ ?_
  show Steps p.tables e below (T0.setTop (mkF m 172 #[s0, s1, s2, s3, s4, s5, s6, s7, s8, s9, s10, s11, .val (.int i12), .val (.ref o13), .val (.ref o14), .unset, .unset, .unset, s18, s19, s20, s21, s22, s23, s24] [(.int w7)])) _
  refine XS.istore X0.here hx rfl (hb hby at_172) rfl (l' := #[s0, s1, s2, s3, s4, s5, s6, s7, s8, s9, s10, s11, .val (.int i12), .val (.ref o13), .val (.ref o14), .val (.int w7), .unset, .unset, s18, s19, s20, s21, s22, s23, s24]) (os0_172 hs15) ?_
  show Steps p.tables e below (T0.setTop (mkF m 174 #[s0, s1, s2, s3, s4, s5, s6, s7, s8, s9, s10, s11, .val (.int i12), .val (.ref o13), .val (.ref o14), .val (.int w7), .unset, .unset, s18, s19, s20, s21, s22, s23, s24] [])) _
  refine XS.aload X0.here hx rfl (hb hby at_174) rfl rfl ?_
  show Steps p.tables e below (T0.setTop (mkF m 176 #[s0, s1, s2, s3, s4, s5, s6, s7, s8, s9, s10, s11, .val (.int i12), .val (.ref o13), .val (.ref o14), .val (.int w7), .unset, .unset, s18, s19, s20, s21, s22, s23, s24] [(.ref o14)])) _
  refine XS.aload X0.here hx rfl (hb hby at_176) rfl rfl ?_
  show Steps p.tables e below (T0.setTop (mkF m 178 #[s0, s1, s2, s3, s4, s5, s6, s7, s8, s9, s10, s11, .val (.int i12), .val (.ref o13), .val (.ref o14), .val (.int w7), .unset, .unset, s18, s19, s20, s21, s22, s23, s24] [(.ref o13), (.ref o14)])) _
  refine XS.iconst X0.here hx rfl (hb hby at_178) ?_
  show Steps p.tables e below (T0.setTop (mkF m 179 #[s0, s1, s2, s3, s4, s5, s6, s7, s8, s9, s10, s11, .val (.int i12), .val (.ref o13), .val (.ref o14), .val (.int w7), .unset, .unset, s18, s19, s20, s21, s22, s23, s24] [(.int (3 : Int32)), (.ref o13), (.ref o14)])) _
  refine XS.iload X0.here hx rfl (hb hby at_179) rfl ?_
  show Steps p.tables e below (T0.setTop (mkF m 181 #[s0, s1, s2, s3, s4, s5, s6, s7, s8, s9, s10, s11, .val (.int i12), .val (.ref o13), .val (.ref o14), .val (.int w7), .unset, .unset, s18, s19, s20, s21, s22, s23, s24] [(.int i12), (.int (3 : Int32)), (.ref o13), (.ref o14)])) _
  refine XS.imul X0.here hx rfl (hb hby at_181) rfl ?_
  show Steps p.tables e below (T0.setTop (mkF m 182 #[s0, s1, s2, s3, s4, s5, s6, s7, s8, s9, s10, s11, .val (.int i12), .val (.ref o13), .val (.ref o14), .val (.int w7), .unset, .unset, s18, s19, s20, s21, s22, s23, s24] [(.int ((3 : Int32) * i12)), (.ref o13), (.ref o14)])) _
  refine XS.iconst X0.here hx rfl (hb hby at_182) ?_
  show Steps p.tables e below (T0.setTop (mkF m 183 #[s0, s1, s2, s3, s4, s5, s6, s7, s8, s9, s10, s11, .val (.int i12), .val (.ref o13), .val (.ref o14), .val (.int w7), .unset, .unset, s18, s19, s20, s21, s22, s23, s24] [(.int (1 : Int32)), (.int ((3 : Int32) * i12)), (.ref o13), (.ref o14)])) _
  refine XS.iadd X0.here hx rfl (hb hby at_183) rfl ?_
  show Steps p.tables e below (T0.setTop (mkF m 184 #[s0, s1, s2, s3, s4, s5, s6, s7, s8, s9, s10, s11, .val (.int i12), .val (.ref o13), .val (.ref o14), .val (.int w7), .unset, .unset, s18, s19, s20, s21, s22, s23, s24] [(.int (((3 : Int32) * i12) + (1 : Int32))), (.ref o13), (.ref o14)])) _
  refine X0.iaload hx (j := (((3 : Int32) * i12) + (1 : Int32))) (v := (.int w8)) (by rw [e0]; exact Ar_o13.1) (State.isArrayOf_alike hZ.alike Ar_o13.2.1) Ar_o13.2.2 hin184 hat184 (g := (mkF m 184 #[s0, s1, s2, s3, s4, s5, s6, s7, s8, s9, s10, s11, .val (.int i12), .val (.ref o13), .val (.ref o14), .val (.int w7), .unset, .unset, s18, s19, s20, s21, s22, s23, s24] [(.int (((3 : Int32) * i12) + (1 : Int32))), (.ref o13), (.ref o14)])) rfl rfl (hb hby at_184) _ ?_
  show Steps p.tables e below (T0.setTop (mkF m 185 #[s0, s1, s2, s3, s4, s5, s6, s7, s8, s9, s10, s11, .val (.int i12), .val (.ref o13), .val (.ref o14), .val (.int w7), .unset, .unset, s18, s19, s20, s21, s22, s23, s24] [(.int w8), (.ref o14)])) _
  refine X0.iaload hx (j := w8) (v := (.int w9)) (by rw [e0]; exact Ar_o14.1) (State.isArrayOf_alike hZ.alike Ar_o14.2.1) Ar_o14.2.2 hin185 hat185 (g := (mkF m 185 #[s0, s1, s2, s3, s4, s5, s6, s7, s8, s9, s10, s11, .val (.int i12), .val (.ref o13), .val (.ref o14), .val (.int w7), .unset, .unset, s18, s19, s20, s21, s22, s23, s24] [(.int w8), (.ref o14)])) rfl rfl (hb hby at_185) _ ?_
  show Steps p.tables e below (T0.setTop (mkF m 186 #[s0, s1, s2, s3, s4, s5, s6, s7, s8, s9, s10, s11, .val (.int i12), .val (.ref o13), .val (.ref o14), .val (.int w7), .unset, .unset, s18, s19, s20, s21, s22, s23, s24] [(.int w9)])) _
  refine XS.istore X0.here hx rfl (hb hby at_186) rfl (l' := #[s0, s1, s2, s3, s4, s5, s6, s7, s8, s9, s10, s11, .val (.int i12), .val (.ref o13), .val (.ref o14), .val (.int w7), .val (.int w9), .unset, s18, s19, s20, s21, s22, s23, s24]) (os0_186 hs16) ?_
  show Steps p.tables e below (T0.setTop (mkF m 188 #[s0, s1, s2, s3, s4, s5, s6, s7, s8, s9, s10, s11, .val (.int i12), .val (.ref o13), .val (.ref o14), .val (.int w7), .val (.int w9), .unset, s18, s19, s20, s21, s22, s23, s24] [])) _
  refine XS.aload X0.here hx rfl (hb hby at_188) rfl rfl ?_
  show Steps p.tables e below (T0.setTop (mkF m 190 #[s0, s1, s2, s3, s4, s5, s6, s7, s8, s9, s10, s11, .val (.int i12), .val (.ref o13), .val (.ref o14), .val (.int w7), .val (.int w9), .unset, s18, s19, s20, s21, s22, s23, s24] [(.ref o14)])) _
  refine XS.aload X0.here hx rfl (hb hby at_190) rfl rfl ?_
  show Steps p.tables e below (T0.setTop (mkF m 192 #[s0, s1, s2, s3, s4, s5, s6, s7, s8, s9, s10, s11, .val (.int i12), .val (.ref o13), .val (.ref o14), .val (.int w7), .val (.int w9), .unset, s18, s19, s20, s21, s22, s23, s24] [(.ref o13), (.ref o14)])) _
  refine XS.iconst X0.here hx rfl (hb hby at_192) ?_
  show Steps p.tables e below (T0.setTop (mkF m 193 #[s0, s1, s2, s3, s4, s5, s6, s7, s8, s9, s10, s11, .val (.int i12), .val (.ref o13), .val (.ref o14), .val (.int w7), .val (.int w9), .unset, s18, s19, s20, s21, s22, s23, s24] [(.int (3 : Int32)), (.ref o13), (.ref o14)])) _
  refine XS.iload X0.here hx rfl (hb hby at_193) rfl ?_
  show Steps p.tables e below (T0.setTop (mkF m 195 #[s0, s1, s2, s3, s4, s5, s6, s7, s8, s9, s10, s11, .val (.int i12), .val (.ref o13), .val (.ref o14), .val (.int w7), .val (.int w9), .unset, s18, s19, s20, s21, s22, s23, s24] [(.int i12), (.int (3 : Int32)), (.ref o13), (.ref o14)])) _
  refine XS.imul X0.here hx rfl (hb hby at_195) rfl ?_
  show Steps p.tables e below (T0.setTop (mkF m 196 #[s0, s1, s2, s3, s4, s5, s6, s7, s8, s9, s10, s11, .val (.int i12), .val (.ref o13), .val (.ref o14), .val (.int w7), .val (.int w9), .unset, s18, s19, s20, s21, s22, s23, s24] [(.int ((3 : Int32) * i12)), (.ref o13), (.ref o14)])) _
  refine XS.iconst X0.here hx rfl (hb hby at_196) ?_
  show Steps p.tables e below (T0.setTop (mkF m 197 #[s0, s1, s2, s3, s4, s5, s6, s7, s8, s9, s10, s11, .val (.int i12), .val (.ref o13), .val (.ref o14), .val (.int w7), .val (.int w9), .unset, s18, s19, s20, s21, s22, s23, s24] [(.int (2 : Int32)), (.int ((3 : Int32) * i12)), (.ref o13), (.ref o14)])) _
  refine XS.iadd X0.here hx rfl (hb hby at_197) rfl ?_
  show Steps p.tables e below (T0.setTop (mkF m 198 #[s0, s1, s2, s3, s4, s5, s6, s7, s8, s9, s10, s11, .val (.int i12), .val (.ref o13), .val (.ref o14), .val (.int w7), .val (.int w9), .unset, s18, s19, s20, s21, s22, s23, s24] [(.int (((3 : Int32) * i12) + (2 : Int32))), (.ref o13), (.ref o14)])) _
  refine X0.iaload hx (j := (((3 : Int32) * i12) + (2 : Int32))) (v := (.int w10)) (by rw [e0]; exact Ar_o13.1) (State.isArrayOf_alike hZ.alike Ar_o13.2.1) Ar_o13.2.2 hin198 hat198 (g := (mkF m 198 #[s0, s1, s2, s3, s4, s5, s6, s7, s8, s9, s10, s11, .val (.int i12), .val (.ref o13), .val (.ref o14), .val (.int w7), .val (.int w9), .unset, s18, s19, s20, s21, s22, s23, s24] [(.int (((3 : Int32) * i12) + (2 : Int32))), (.ref o13), (.ref o14)])) rfl rfl (hb hby at_198) _ ?_
  show Steps p.tables e below (T0.setTop (mkF m 199 #[s0, s1, s2, s3, s4, s5, s6, s7, s8, s9, s10, s11, .val (.int i12), .val (.ref o13), .val (.ref o14), .val (.int w7), .val (.int w9), .unset, s18, s19, s20, s21, s22, s23, s24] [(.int w10), (.ref o14)])) _
  refine X0.iaload hx (j := w10) (v := (.int w11)) (by rw [e0]; exact Ar_o14.1) (State.isArrayOf_alike hZ.alike Ar_o14.2.1) Ar_o14.2.2 hin199 hat199 (g := (mkF m 199 #[s0, s1, s2, s3, s4, s5, s6, s7, s8, s9, s10, s11, .val (.int i12), .val (.ref o13), .val (.ref o14), .val (.int w7), .val (.int w9), .unset, s18, s19, s20, s21, s22, s23, s24] [(.int w10), (.ref o14)])) rfl rfl (hb hby at_199) _ ?_
  show Steps p.tables e below (T0.setTop (mkF m 200 #[s0, s1, s2, s3, s4, s5, s6, s7, s8, s9, s10, s11, .val (.int i12), .val (.ref o13), .val (.ref o14), .val (.int w7), .val (.int w9), .unset, s18, s19, s20, s21, s22, s23, s24] [(.int w11)])) _
  refine XS.istore X0.here hx rfl (hb hby at_200) rfl (l' := #[s0, s1, s2, s3, s4, s5, s6, s7, s8, s9, s10, s11, .val (.int i12), .val (.ref o13), .val (.ref o14), .val (.int w7), .val (.int w9), .val (.int w11), s18, s19, s20, s21, s22, s23, s24]) (os0_200 hs17) ?_
  exact kt
theorem pd_0_0 : parseMethodDescriptor "(J)J" = some ⟨[.long], some .long⟩ := by decide +kernel
theorem pd_0_1 : parseMethodDescriptor "(I)V" = some ⟨[.int], none⟩ := by decide +kernel
theorem os0_230 {s0 : Slot} {s1 : Slot} {z2 : Value} {z4 : Value} {z6 : Value} {s8 : Slot} {s9 : Slot} {s10 : Slot} {s11 : Slot} {s12 : Slot} {s13 : Slot} {s14 : Slot} {s15 : Slot} {s16 : Slot} {s17 : Slot} {z18 : Value} {z20 : Value} {z22 : Value} {s24 : Slot} {v : Addr} (h : One s24) : storeLocals #[s0, s1, .val z2, .second, .val z4, .second, .val z6, .second, s8, s9, s10, s11, s12, s13, s14, s15, s16, s17, .val z18, .second, .val z20, .second, .val z22, .second, s24] 24 (.ref v) = some #[s0, s1, .val z2, .second, .val z4, .second, .val z6, .second, s8, s9, s10, s11, s12, s13, s14, s15, s16, s17, .val z18, .second, .val z20, .second, .val z22, .second, .val (.ref v)] := by
  rcases h with rfl | ⟨w, rfl, hw⟩
  · rfl
  · cases w <;> first | rfl | (simp [Value.category] at hw)
set_option maxRecDepth 65536 in
set_option maxHeartbeats 40000000 in
theorem tn0_202_232 {p : Program} {l : Launch} {e : Env} {s : State} {m : MethodId} {args : Array Value} {below : List Frame} {meth : Method} {c : Code} {T0 : State} {locs : List Loc} {Z : State} {a0 : Array Value} {h0 : Heap} {n0 : Nat} (s0 : Slot) (s1 : Slot) (j2 : Int64) (j4 : Int64) (j6 : Int64) (s8 : Slot) (s9 : Slot) (s10 : Slot) (s11 : Slot) (s12 : Slot) (s13 : Slot) (s14 : Slot) (s15 : Slot) (s16 : Slot) (s17 : Slot)
    (X0 : Stand p l e room_1 s m args below meth c T0 locs 2 21) (hx : p.tables.exec = Jvm.exec) (hZ : Z.Warmed39 s.vm) (hw : ∀ d ∈ tables_1, d.before a0 Z = true) (hby : c.code = code) (hml : c.maxLocals = 25) (hown : s.vm.findClass "com/example/upweight/upweight/HeldTermsAddPinLaw" = some m.cls) (e0 : T0.heap = h0) (N0 : Fr n0 locs) (Z0 : n0 ≤ h0.size) (hs24 : One .unset) :
    ∃ (b9 : Addr) (T' : State) (h' : Heap) (locs' : List Loc), Stand p l e room_1 s m args below meth c T' locs' 5 32 ∧ T'.heap = h' ∧ Fr n0 locs' ∧ n0 ≤ h'.size ∧ (∃ ca pa, own_HT Z n0 h' b9 ca pa 0 (fun _ => 0) (fun _ => 0)) ∧
      ∀ target, Steps p.tables e below (T'.setTop (mkF m 232 #[s0, s1, .val (.long j2), .second, .val (.long j4), .second, .val (.long j6), .second, s8, s9, s10, s11, s12, s13, s14, s15, s16, s17, .val (.long (own_f1 j2)), .second, .val (.long (own_f1 j4)), .second, .val (.long (own_f1 j6)), .second, .val (.ref b9)] [])) target → Steps p.tables e below (T0.setTop (mkF m 202 #[s0, s1, .val (.long j2), .second, .val (.long j4), .second, .val (.long j6), .second, s8, s9, s10, s11, s12, s13, s14, s15, s16, s17, .unset, .unset, .unset, .unset, .unset, .unset, .unset] [])) target := by
  obtain ⟨_, _, ⟨T6, L6, k6, n6⟩, -, X6, ⟨Lc6, hQ6, l6, y6, z6⟩, st6⟩ := Jvm.LawKit.callS X0 hx (y := (⟨"com/example/upweight/upweight/HeldTermsAddPinLaw", "positive", "(J)J"⟩ : MethodName)) hown (mvT hZ (hw _ (List.mem_of_getElem? (i := 2) rfl))) (mvT hZ (hw _ (List.mem_of_getElem? (i := 3) rfl))) (mvT hZ (hw _ (List.mem_of_getElem? (i := 4) rfl))) (mvT hZ (hw _ (List.mem_of_getElem? (i := 5) rfl))) (by decide) (backOf (W := 0) (rm1 l Z a0 hw [] j2 h0 n0 Z0) hZ (hw _ (List.mem_of_getElem? (i := 5) rfl)) (hw _ (List.mem_of_getElem? (i := 4) rfl)) (by decide) (by decide)) (g := (mkF m 203 #[s0, s1, .val (.long j2), .second, .val (.long j4), .second, .val (.long j6), .second, s8, s9, s10, s11, s12, s13, s14, s15, s16, s17, .unset, .unset, .unset, .unset, .unset, .unset, .unset] [(.long j2)])) rfl (by rw [hml]; rfl) (argsL := [(.long j2)]) (rest := []) (lenOf pd_0_0 rfl) rfl (by show 2 * 0 + _ ≤ _; exact Nat.le_of_eq rfl) (hb hby at_203) (fun _ _ => ⟨rfl, e0, (Nat.le_of_ble_eq_true rfl), (Nat.le_of_ble_eq_true rfl)⟩)
  dsimp only [Pt.U, Pt.locs, Pt.cells, Pt.slots] at X6 l6 y6 z6 st6 hQ6
  subst l6 y6 z6
  obtain ⟨rfl, N6q, q6⟩ := hQ6
  have N6 := Fr.app N0 N6q
  obtain ⟨_, _, ⟨T7, L7, k7, n7⟩, -, X7, ⟨Lc7, hQ7, l7, y7, z7⟩, st7⟩ := Jvm.LawKit.callS X6 hx (y := (⟨"com/example/upweight/upweight/HeldTermsAddPinLaw", "positive", "(J)J"⟩ : MethodName)) hown (mvT hZ (hw _ (List.mem_of_getElem? (i := 2) rfl))) (mvT hZ (hw _ (List.mem_of_getElem? (i := 3) rfl))) (mvT hZ (hw _ (List.mem_of_getElem? (i := 4) rfl))) (mvT hZ (hw _ (List.mem_of_getElem? (i := 5) rfl))) (by decide) (backOf (W := 0) (rm1 l Z a0 hw [] j4 T6.heap n0 (by rw [q6]; exact Z0)) hZ (hw _ (List.mem_of_getElem? (i := 5) rfl)) (hw _ (List.mem_of_getElem? (i := 4) rfl)) (by decide) (by decide)) (g := (mkF m 210 #[s0, s1, .val (.long j2), .second, .val (.long j4), .second, .val (.long j6), .second, s8, s9, s10, s11, s12, s13, s14, s15, s16, s17, .val (.long (own_f1 j2)), .second, .unset, .unset, .unset, .unset, .unset] [(.long j4)])) rfl (by rw [hml]; rfl) (argsL := [(.long j4)]) (rest := []) (lenOf pd_0_0 rfl) rfl (by show 2 * 0 + _ ≤ _; exact Nat.le_of_eq rfl) (hb hby at_210) (fun _ _ => ⟨rfl, rfl, (Nat.le_of_ble_eq_true rfl), (Nat.le_of_ble_eq_true rfl)⟩)
  dsimp only [Pt.U, Pt.locs, Pt.cells, Pt.slots] at X7 l7 y7 z7 st7 hQ7
  subst l7 y7 z7
  obtain ⟨rfl, N7q, q7⟩ := hQ7
  have N7 := Fr.app N6 N7q
  obtain ⟨_, _, ⟨T8, L8, k8, n8⟩, -, X8, ⟨Lc8, hQ8, l8, y8, z8⟩, st8⟩ := Jvm.LawKit.callS X7 hx (y := (⟨"com/example/upweight/upweight/HeldTermsAddPinLaw", "positive", "(J)J"⟩ : MethodName)) hown (mvT hZ (hw _ (List.mem_of_getElem? (i := 2) rfl))) (mvT hZ (hw _ (List.mem_of_getElem? (i := 3) rfl))) (mvT hZ (hw _ (List.mem_of_getElem? (i := 4) rfl))) (mvT hZ (hw _ (List.mem_of_getElem? (i := 5) rfl))) (by decide) (backOf (W := 0) (rm1 l Z a0 hw [] j6 T7.heap n0 (by rw [q7, q6]; exact Z0)) hZ (hw _ (List.mem_of_getElem? (i := 5) rfl)) (hw _ (List.mem_of_getElem? (i := 4) rfl)) (by decide) (by decide)) (g := (mkF m 217 #[s0, s1, .val (.long j2), .second, .val (.long j4), .second, .val (.long j6), .second, s8, s9, s10, s11, s12, s13, s14, s15, s16, s17, .val (.long (own_f1 j2)), .second, .val (.long (own_f1 j4)), .second, .unset, .unset, .unset] [(.long j6)])) rfl (by rw [hml]; rfl) (argsL := [(.long j6)]) (rest := []) (lenOf pd_0_0 rfl) rfl (by show 2 * 0 + _ ≤ _; exact Nat.le_of_eq rfl) (hb hby at_217) (fun _ _ => ⟨rfl, rfl, (Nat.le_of_ble_eq_true rfl), (Nat.le_of_ble_eq_true rfl)⟩)
  dsimp only [Pt.U, Pt.locs, Pt.cells, Pt.slots] at X8 l8 y8 z8 st8 hQ8
  subst l8 y8 z8
  obtain ⟨rfl, N8q, q8⟩ := hQ8
  have K8 : Keep h0 T8.heap [] := by rw [q8, q7, q6]; exact Keep.refl _ _
  have N8 := Fr.app N7 N8q
  obtain ⟨T9, h9, X9, e9, E9, A9, D9, -, st9⟩ := newO X8 hx hZ hown (hw _ (List.mem_of_getElem? (i := 7) rfl)) (hw _ (List.mem_of_getElem? (i := 8) rfl)) (hw _ (List.mem_of_getElem? (i := 9) rfl)) rfl (g := (mkF m 222 #[s0, s1, .val (.long j2), .second, .val (.long j4), .second, .val (.long j6), .second, s8, s9, s10, s11, s12, s13, s14, s15, s16, s17, .val (.long (own_f1 j2)), .second, .val (.long (own_f1 j4)), .second, .val (.long (own_f1 j6)), .second, .unset] [])) rfl (hb hby at_222) (by decide) (by decide)
  obtain ⟨b9, g9⟩ : ∃ z, z = T8.heap.size := ⟨_, rfl⟩
  rw [← g9] at A9 D9 st9
  have F_counts_b9 : Fld Z h9 b9 "com/example/upweight/upweight/HeldTerms" "counts" "[J" .null := D9 (Or.inr (hw _ (List.mem_of_getElem? (i := 18) rfl))) (ty := (.array .long)) (by decide)
  have F_places_b9 : Fld Z h9 b9 "com/example/upweight/upweight/HeldTerms" "places" "[I" .null := D9 (Or.inr (hw _ (List.mem_of_getElem? (i := 20) rfl))) (ty := (.array .int)) (by decide)
  have F_size_b9 : Fld Z h9 b9 "com/example/upweight/upweight/HeldTerms" "size" "I" (.int (0 : Int32)) := D9 (Or.inl (hw _ (List.mem_of_getElem? (i := 27) rfl))) (ty := .int) (by decide)
  have E_b9 := A9
  have g_b9 : n0 ≤ b9 := Nat.le_trans Z0 (Nat.le_trans K8.1 (Nat.le_of_eq g9.symm))
  have sz_b9 : h0.size ≤ b9 := (Nat.le_trans K8.1 (Nat.le_of_eq g9.symm))
  have K9 : Keep h0 h9 [] := K8.ext E9
  obtain ⟨_, _, ⟨T10, L10, k10, n10⟩, -, X10, ⟨Lc10, hQ10, l10, y10, z10⟩, st10⟩ := X9.specialBack hx (y := (⟨"com/example/upweight/upweight/HeldTerms", "<init>", "(I)V"⟩ : MethodName)) rfl hown (mvT hZ (hw _ (List.mem_of_getElem? (i := 10) rfl))) (mvT hZ (hw _ (List.mem_of_getElem? (i := 11) rfl))) (mvT hZ (hw _ (List.mem_of_getElem? (i := 12) rfl))) (by decide) (backOf (W := 1) (rm2 l Z a0 hw [] b9 (4 : Int32) _ _ h9 n0 (Nat.le_trans Z0 K9.1) rfl F_size_b9 E_b9 F_counts_b9 g_b9 F_places_b9) hZ (hw _ (List.mem_of_getElem? (i := 12) rfl)) (hw _ (List.mem_of_getElem? (i := 9) rfl)) (by decide) (by decide)) (g := (mkF m 227 #[s0, s1, .val (.long j2), .second, .val (.long j4), .second, .val (.long j6), .second, s8, s9, s10, s11, s12, s13, s14, s15, s16, s17, .val (.long (own_f1 j2)), .second, .val (.long (own_f1 j4)), .second, .val (.long (own_f1 j6)), .second, .unset] [(.int (4 : Int32)), (.ref b9), (.ref b9)])) rfl (by rw [hml]; rfl) (Steps.refl _) (a := b9) (argsL := [(.int (4 : Int32))]) (rest := [(.ref b9)]) (lenOf pd_0_1 rfl) rfl (by show 2 * 0 + _ ≤ _; exact Nat.le_of_eq rfl) (hb hby at_227) (fun _ _ => ⟨rfl, e9, (Nat.le_of_ble_eq_true rfl), (Nat.le_of_ble_eq_true rfl)⟩)
  dsimp only [Pt.U, Pt.locs, Pt.cells, Pt.slots] at X10 l10 y10 z10 st10 hQ10
  subst l10 y10 z10
  obtain ⟨rfl, N10q, K10, ca, pa, HT⟩ := hQ10
  have N10 := Fr.app N8 N10q
  refine ⟨b9, T10, _, _, X10, rfl, N10, (Nat.le_trans Z0 (Nat.le_trans K9.1 K10.1)), ⟨ca, pa, HT⟩, fun target kt => ?_⟩
  show Steps p.tables e below (T0.setTop (mkF m 202 #[s0, s1, .val (.long j2), .second, .val (.long j4), .second, .val (.long j6), .second, s8, s9, s10, s11, s12, s13, s14, s15, s16, s17, .unset, .unset, .unset, .unset, .unset, .unset, .unset] [])) _
  refine XS.lloadN X0.here hx rfl (hb hby at_202) rfl ?_
  show Steps p.tables e below (T0.setTop (mkF m 203 #[s0, s1, .val (.long j2), .second, .val (.long j4), .second, .val (.long j6), .second, s8, s9, s10, s11, s12, s13, s14, s15, s16, s17, .unset, .unset, .unset, .unset, .unset, .unset, .unset] [(.long j2)])) _
  refine st6 _ ?_
  show Steps p.tables e below (T6.setTop (mkF m 206 #[s0, s1, .val (.long j2), .second, .val (.long j4), .second, .val (.long j6), .second, s8, s9, s10, s11, s12, s13, s14, s15, s16, s17, .unset, .unset, .unset, .unset, .unset, .unset, .unset] [(.long (own_f1 j2))])) _
  refine XS.lstore X6.here hx rfl (hb hby at_206) rfl (l' := #[s0, s1, .val (.long j2), .second, .val (.long j4), .second, .val (.long j6), .second, s8, s9, s10, s11, s12, s13, s14, s15, s16, s17, .val (.long (own_f1 j2)), .second, .unset, .unset, .unset, .unset, .unset]) rfl ?_
  show Steps p.tables e below (T6.setTop (mkF m 208 #[s0, s1, .val (.long j2), .second, .val (.long j4), .second, .val (.long j6), .second, s8, s9, s10, s11, s12, s13, s14, s15, s16, s17, .val (.long (own_f1 j2)), .second, .unset, .unset, .unset, .unset, .unset] [])) _
  refine XS.lload X6.here hx rfl (hb hby at_208) rfl ?_
  show Steps p.tables e below (T6.setTop (mkF m 210 #[s0, s1, .val (.long j2), .second, .val (.long j4), .second, .val (.long j6), .second, s8, s9, s10, s11, s12, s13, s14, s15, s16, s17, .val (.long (own_f1 j2)), .second, .unset, .unset, .unset, .unset, .unset] [(.long j4)])) _
  refine st7 _ ?_
  show Steps p.tables e below (T7.setTop (mkF m 213 #[s0, s1, .val (.long j2), .second, .val (.long j4), .second, .val (.long j6), .second, s8, s9, s10, s11, s12, s13, s14, s15, s16, s17, .val (.long (own_f1 j2)), .second, .unset, .unset, .unset, .unset, .unset] [(.long (own_f1 j4))])) _
  refine XS.lstore X7.here hx rfl (hb hby at_213) rfl (l' := #[s0, s1, .val (.long j2), .second, .val (.long j4), .second, .val (.long j6), .second, s8, s9, s10, s11, s12, s13, s14, s15, s16, s17, .val (.long (own_f1 j2)), .second, .val (.long (own_f1 j4)), .second, .unset, .unset, .unset]) rfl ?_
  show Steps p.tables e below (T7.setTop (mkF m 215 #[s0, s1, .val (.long j2), .second, .val (.long j4), .second, .val (.long j6), .second, s8, s9, s10, s11, s12, s13, s14, s15, s16, s17, .val (.long (own_f1 j2)), .second, .val (.long (own_f1 j4)), .second, .unset, .unset, .unset] [])) _
  refine XS.lload X7.here hx rfl (hb hby at_215) rfl ?_
  show Steps p.tables e below (T7.setTop (mkF m 217 #[s0, s1, .val (.long j2), .second, .val (.long j4), .second, .val (.long j6), .second, s8, s9, s10, s11, s12, s13, s14, s15, s16, s17, .val (.long (own_f1 j2)), .second, .val (.long (own_f1 j4)), .second, .unset, .unset, .unset] [(.long j6)])) _
  refine st8 _ ?_
  show Steps p.tables e below (T8.setTop (mkF m 220 #[s0, s1, .val (.long j2), .second, .val (.long j4), .second, .val (.long j6), .second, s8, s9, s10, s11, s12, s13, s14, s15, s16, s17, .val (.long (own_f1 j2)), .second, .val (.long (own_f1 j4)), .second, .unset, .unset, .unset] [(.long (own_f1 j6))])) _
  refine XS.lstore X8.here hx rfl (hb hby at_220) rfl (l' := #[s0, s1, .val (.long j2), .second, .val (.long j4), .second, .val (.long j6), .second, s8, s9, s10, s11, s12, s13, s14, s15, s16, s17, .val (.long (own_f1 j2)), .second, .val (.long (own_f1 j4)), .second, .val (.long (own_f1 j6)), .second, .unset]) rfl ?_
  show Steps p.tables e below (T8.setTop (mkF m 222 #[s0, s1, .val (.long j2), .second, .val (.long j4), .second, .val (.long j6), .second, s8, s9, s10, s11, s12, s13, s14, s15, s16, s17, .val (.long (own_f1 j2)), .second, .val (.long (own_f1 j4)), .second, .val (.long (own_f1 j6)), .second, .unset] [])) _
  refine st9 _ ?_
  show Steps p.tables e below (T9.setTop (mkF m 225 #[s0, s1, .val (.long j2), .second, .val (.long j4), .second, .val (.long j6), .second, s8, s9, s10, s11, s12, s13, s14, s15, s16, s17, .val (.long (own_f1 j2)), .second, .val (.long (own_f1 j4)), .second, .val (.long (own_f1 j6)), .second, .unset] [(.ref b9)])) _
  refine XS.dup X9.here hx rfl (hb hby at_225) rfl rfl ?_
  show Steps p.tables e below (T9.setTop (mkF m 226 #[s0, s1, .val (.long j2), .second, .val (.long j4), .second, .val (.long j6), .second, s8, s9, s10, s11, s12, s13, s14, s15, s16, s17, .val (.long (own_f1 j2)), .second, .val (.long (own_f1 j4)), .second, .val (.long (own_f1 j6)), .second, .unset] [(.ref b9), (.ref b9)])) _
  refine XS.iconst X9.here hx rfl (hb hby at_226) ?_
  show Steps p.tables e below (T9.setTop (mkF m 227 #[s0, s1, .val (.long j2), .second, .val (.long j4), .second, .val (.long j6), .second, s8, s9, s10, s11, s12, s13, s14, s15, s16, s17, .val (.long (own_f1 j2)), .second, .val (.long (own_f1 j4)), .second, .val (.long (own_f1 j6)), .second, .unset] [(.int (4 : Int32)), (.ref b9), (.ref b9)])) _
  refine st10.trans ?_
  show Steps p.tables e below (T10.setTop (mkF m 230 #[s0, s1, .val (.long j2), .second, .val (.long j4), .second, .val (.long j6), .second, s8, s9, s10, s11, s12, s13, s14, s15, s16, s17, .val (.long (own_f1 j2)), .second, .val (.long (own_f1 j4)), .second, .val (.long (own_f1 j6)), .second, .unset] [(.ref b9)])) _
  refine XS.astore X10.here hx rfl (hb hby at_230) rfl rfl (l' := #[s0, s1, .val (.long j2), .second, .val (.long j4), .second, .val (.long j6), .second, s8, s9, s10, s11, s12, s13, s14, s15, s16, s17, .val (.long (own_f1 j2)), .second, .val (.long (own_f1 j4)), .second, .val (.long (own_f1 j6)), .second, .val (.ref b9)]) (os0_230 hs24) ?_
  exact kt
theorem pd_0_3 : parseMethodDescriptor "(IJ)V" = some ⟨[.int, .long], none⟩ := by decide +kernel
set_option maxRecDepth 65536 in
set_option maxHeartbeats 40000000 in
theorem tn0_232_259 {p : Program} {l : Launch} {e : Env} {s : State} {m : MethodId} {args : Array Value} {below : List Frame} {meth : Method} {c : Code} {T0 : State} {locs : List Loc} {Z : State} {a0 : Array Value} {h0 : Heap} {n0 : Nat} (s0 : Slot) (s1 : Slot) (s2 : Slot) (s3 : Slot) (s4 : Slot) (s5 : Slot) (s6 : Slot) (s7 : Slot) (s8 : Slot) (s9 : Slot) (s10 : Slot) (s11 : Slot) (s12 : Slot) (s13 : Slot) (s14 : Slot) (q0 : Nat) (q1 : Nat) (q2 : Nat) (j18 : Int64) (j20 : Int64) (j22 : Int64) (o24 : Addr) (ca pa : Addr) (f : Nat → Nat) (g : Nat → Int64)
    (X0 : Stand p l e room_1 s m args below meth c T0 locs 5 32) (hx : p.tables.exec = Jvm.exec) (hZ : Z.Warmed39 s.vm) (hw : ∀ d ∈ tables_1, d.before a0 Z = true) (hby : c.code = code) (hml : c.maxLocals = 25) (hown : s.vm.findClass "com/example/upweight/upweight/HeldTermsAddPinLaw" = some m.cls) (e0 : T0.heap = h0) (N0 : Fr n0 locs) (Z0 : n0 ≤ h0.size) (E_o24 : Exa Z h0 o24 "com/example/upweight/upweight/HeldTerms") (HT : own_HT Z n0 h0 o24 ca pa 0 f g) (hq0 : q0 < 4) (hq1 : q1 < 4) (hq2 : q2 < 4) :
    ∃ (T' : State) (h' : Heap) (locs' : List Loc), Stand p l e room_1 s m args below meth c T' locs' 5 32 ∧ T'.heap = h' ∧ Fr n0 locs' ∧ n0 ≤ h'.size ∧ (own_HT Z n0 h' o24 ca pa 3 (own_ins q2 2 (own_ins q1 1 (own_ins q0 0 f))) (own_upd (own_upd (own_upd g q0 j18) q1 j20) q2 j22)) ∧
      ∀ target, Steps p.tables e below (T'.setTop (mkF m 259 #[s0, s1, s2, s3, s4, s5, s6, s7, s8, s9, s10, s11, s12, s13, s14, .val (.int (Int32.ofNat q0)), .val (.int (Int32.ofNat q1)), .val (.int (Int32.ofNat q2)), .val (.long j18), .second, .val (.long j20), .second, .val (.long j22), .second, .val (.ref o24)] [])) target → Steps p.tables e below (T0.setTop (mkF m 232 #[s0, s1, s2, s3, s4, s5, s6, s7, s8, s9, s10, s11, s12, s13, s14, .val (.int (Int32.ofNat q0)), .val (.int (Int32.ofNat q1)), .val (.int (Int32.ofNat q2)), .val (.long j18), .second, .val (.long j20), .second, .val (.long j22), .second, .val (.ref o24)] [])) target := by
  obtain ⟨cq6, kq6, q6a, q6b, q6c⟩ := isOf hZ e0 E_o24
  obtain ⟨_, _, ⟨T6, L6, k6, n6⟩, -, X6, ⟨Lc6, hQ6, l6, y6, z6⟩, st6⟩ := X0.virtualBack hx (y := (⟨"com/example/upweight/upweight/HeldTerms", "add", "(IJ)V"⟩ : MethodName)) (z := (⟨"com/example/upweight/upweight/HeldTerms", "add", "(IJ)V"⟩ : MethodName)) hown (mvT hZ (hw _ (List.mem_of_getElem? (i := 21) rfl))) (mvT hZ (hw _ (List.mem_of_getElem? (i := 22) rfl))) (notFace_of_selects (args := #[]) (mvT hZ (hw _ (List.mem_of_getElem? (i := 24) rfl)))) (mvT hZ (hw _ (List.mem_of_getElem? (i := 24) rfl))) (mvT hZ (hw _ (List.mem_of_getElem? (i := 23) rfl))) (by decide) (backOf (W := 0) (rm4 l Z a0 hw [] o24 ca pa 0 f g q0 j18 h0 n0 Z0 HT (by decide) hq0) hZ (hw _ (List.mem_of_getElem? (i := 25) rfl)) (hw _ (List.mem_of_getElem? (i := 9) rfl)) (by decide) (by decide)) q6a q6c (g := (mkF m 238 #[s0, s1, s2, s3, s4, s5, s6, s7, s8, s9, s10, s11, s12, s13, s14, .val (.int (Int32.ofNat q0)), .val (.int (Int32.ofNat q1)), .val (.int (Int32.ofNat q2)), .val (.long j18), .second, .val (.long j20), .second, .val (.long j22), .second, .val (.ref o24)] [(.long j18), (.int (Int32.ofNat q0)), (.ref o24)])) rfl (by rw [hml]; rfl) (Steps.refl _) (argsL := [(.int (Int32.ofNat q0)), (.long j18)]) (rest := []) (lenOf pd_0_3 rfl) rfl (by show 2 * 0 + _ ≤ _; exact Nat.le_of_eq rfl) (hb hby at_238) (fun _ _ => ⟨rfl, e0, (Nat.le_of_ble_eq_true rfl), (Nat.le_of_ble_eq_true rfl)⟩)
  dsimp only [Pt.U, Pt.locs, Pt.cells, Pt.slots] at X6 l6 y6 z6 st6 hQ6
  subst l6 y6 z6
  obtain ⟨rfl, N6q, K6, HT6⟩ := hQ6
  have N6 := Fr.app N0 N6q
  obtain ⟨cq7, kq7, q7a, q7b, q7c⟩ := isOf hZ rfl HT6.1
  obtain ⟨_, _, ⟨T7, L7, k7, n7⟩, -, X7, ⟨Lc7, hQ7, l7, y7, z7⟩, st7⟩ := X6.virtualBack hx (y := (⟨"com/example/upweight/upweight/HeldTerms", "add", "(IJ)V"⟩ : MethodName)) (z := (⟨"com/example/upweight/upweight/HeldTerms", "add", "(IJ)V"⟩ : MethodName)) hown (mvT hZ (hw _ (List.mem_of_getElem? (i := 21) rfl))) (mvT hZ (hw _ (List.mem_of_getElem? (i := 22) rfl))) (notFace_of_selects (args := #[]) (mvT hZ (hw _ (List.mem_of_getElem? (i := 24) rfl)))) (mvT hZ (hw _ (List.mem_of_getElem? (i := 24) rfl))) (mvT hZ (hw _ (List.mem_of_getElem? (i := 23) rfl))) (by decide) (backOf (W := 0) (rm4 l Z a0 hw [] o24 ca pa 1 (own_ins q0 0 f) (own_upd g q0 j18) q1 j20 T6.heap n0 (Nat.le_trans Z0 K6.1) HT6 (by decide) hq1) hZ (hw _ (List.mem_of_getElem? (i := 25) rfl)) (hw _ (List.mem_of_getElem? (i := 9) rfl)) (by decide) (by decide)) q7a q7c (g := (mkF m 247 #[s0, s1, s2, s3, s4, s5, s6, s7, s8, s9, s10, s11, s12, s13, s14, .val (.int (Int32.ofNat q0)), .val (.int (Int32.ofNat q1)), .val (.int (Int32.ofNat q2)), .val (.long j18), .second, .val (.long j20), .second, .val (.long j22), .second, .val (.ref o24)] [(.long j20), (.int (Int32.ofNat q1)), (.ref o24)])) rfl (by rw [hml]; rfl) (Steps.refl _) (argsL := [(.int (Int32.ofNat q1)), (.long j20)]) (rest := []) (lenOf pd_0_3 rfl) rfl (by show 2 * 0 + _ ≤ _; exact Nat.le_of_eq rfl) (hb hby at_247) (fun _ _ => ⟨rfl, rfl, (Nat.le_of_ble_eq_true rfl), (Nat.le_of_ble_eq_true rfl)⟩)
  dsimp only [Pt.U, Pt.locs, Pt.cells, Pt.slots] at X7 l7 y7 z7 st7 hQ7
  subst l7 y7 z7
  obtain ⟨rfl, N7q, K7, HT7⟩ := hQ7
  have N7 := Fr.app N6 N7q
  obtain ⟨cq8, kq8, q8a, q8b, q8c⟩ := isOf hZ rfl HT7.1
  obtain ⟨_, _, ⟨T8, L8, k8, n8⟩, -, X8, ⟨Lc8, hQ8, l8, y8, z8⟩, st8⟩ := X7.virtualBack hx (y := (⟨"com/example/upweight/upweight/HeldTerms", "add", "(IJ)V"⟩ : MethodName)) (z := (⟨"com/example/upweight/upweight/HeldTerms", "add", "(IJ)V"⟩ : MethodName)) hown (mvT hZ (hw _ (List.mem_of_getElem? (i := 21) rfl))) (mvT hZ (hw _ (List.mem_of_getElem? (i := 22) rfl))) (notFace_of_selects (args := #[]) (mvT hZ (hw _ (List.mem_of_getElem? (i := 24) rfl)))) (mvT hZ (hw _ (List.mem_of_getElem? (i := 24) rfl))) (mvT hZ (hw _ (List.mem_of_getElem? (i := 23) rfl))) (by decide) (backOf (W := 0) (rm4 l Z a0 hw [] o24 ca pa 2 (own_ins q1 1 (own_ins q0 0 f)) (own_upd (own_upd g q0 j18) q1 j20) q2 j22 T7.heap n0 (Nat.le_trans (Nat.le_trans Z0 K6.1) K7.1) HT7 (by decide) hq2) hZ (hw _ (List.mem_of_getElem? (i := 25) rfl)) (hw _ (List.mem_of_getElem? (i := 9) rfl)) (by decide) (by decide)) q8a q8c (g := (mkF m 256 #[s0, s1, s2, s3, s4, s5, s6, s7, s8, s9, s10, s11, s12, s13, s14, .val (.int (Int32.ofNat q0)), .val (.int (Int32.ofNat q1)), .val (.int (Int32.ofNat q2)), .val (.long j18), .second, .val (.long j20), .second, .val (.long j22), .second, .val (.ref o24)] [(.long j22), (.int (Int32.ofNat q2)), (.ref o24)])) rfl (by rw [hml]; rfl) (Steps.refl _) (argsL := [(.int (Int32.ofNat q2)), (.long j22)]) (rest := []) (lenOf pd_0_3 rfl) rfl (by show 2 * 0 + _ ≤ _; exact Nat.le_of_eq rfl) (hb hby at_256) (fun _ _ => ⟨rfl, rfl, (Nat.le_of_ble_eq_true rfl), (Nat.le_of_ble_eq_true rfl)⟩)
  dsimp only [Pt.U, Pt.locs, Pt.cells, Pt.slots] at X8 l8 y8 z8 st8 hQ8
  subst l8 y8 z8
  obtain ⟨rfl, N8q, K8, HT8⟩ := hQ8
  have N8 := Fr.app N7 N8q
  refine ⟨T8, _, _, X8, rfl, N8, (Nat.le_trans (Nat.le_trans (Nat.le_trans Z0 K6.1) K7.1) K8.1), HT8, fun target kt => ?_⟩
  show Steps p.tables e below (T0.setTop (mkF m 232 #[s0, s1, s2, s3, s4, s5, s6, s7, s8, s9, s10, s11, s12, s13, s14, .val (.int (Int32.ofNat q0)), .val (.int (Int32.ofNat q1)), .val (.int (Int32.ofNat q2)), .val (.long j18), .second, .val (.long j20), .second, .val (.long j22), .second, .val (.ref o24)] [])) _
  refine XS.aload X0.here hx rfl (hb hby at_232) rfl rfl ?_
  show Steps p.tables e below (T0.setTop (mkF m 234 #[s0, s1, s2, s3, s4, s5, s6, s7, s8, s9, s10, s11, s12, s13, s14, .val (.int (Int32.ofNat q0)), .val (.int (Int32.ofNat q1)), .val (.int (Int32.ofNat q2)), .val (.long j18), .second, .val (.long j20), .second, .val (.long j22), .second, .val (.ref o24)] [(.ref o24)])) _
  refine XS.iload X0.here hx rfl (hb hby at_234) rfl ?_
  show Steps p.tables e below (T0.setTop (mkF m 236 #[s0, s1, s2, s3, s4, s5, s6, s7, s8, s9, s10, s11, s12, s13, s14, .val (.int (Int32.ofNat q0)), .val (.int (Int32.ofNat q1)), .val (.int (Int32.ofNat q2)), .val (.long j18), .second, .val (.long j20), .second, .val (.long j22), .second, .val (.ref o24)] [(.int (Int32.ofNat q0)), (.ref o24)])) _
  refine XS.lload X0.here hx rfl (hb hby at_236) rfl ?_
  show Steps p.tables e below (T0.setTop (mkF m 238 #[s0, s1, s2, s3, s4, s5, s6, s7, s8, s9, s10, s11, s12, s13, s14, .val (.int (Int32.ofNat q0)), .val (.int (Int32.ofNat q1)), .val (.int (Int32.ofNat q2)), .val (.long j18), .second, .val (.long j20), .second, .val (.long j22), .second, .val (.ref o24)] [(.long j18), (.int (Int32.ofNat q0)), (.ref o24)])) _
  refine st6.trans ?_
  show Steps p.tables e below (T6.setTop (mkF m 241 #[s0, s1, s2, s3, s4, s5, s6, s7, s8, s9, s10, s11, s12, s13, s14, .val (.int (Int32.ofNat q0)), .val (.int (Int32.ofNat q1)), .val (.int (Int32.ofNat q2)), .val (.long j18), .second, .val (.long j20), .second, .val (.long j22), .second, .val (.ref o24)] [])) _
  refine XS.aload X6.here hx rfl (hb hby at_241) rfl rfl ?_
  show Steps p.tables e below (T6.setTop (mkF m 243 #[s0, s1, s2, s3, s4, s5, s6, s7, s8, s9, s10, s11, s12, s13, s14, .val (.int (Int32.ofNat q0)), .val (.int (Int32.ofNat q1)), .val (.int (Int32.ofNat q2)), .val (.long j18), .second, .val (.long j20), .second, .val (.long j22), .second, .val (.ref o24)] [(.ref o24)])) _
  refine XS.iload X6.here hx rfl (hb hby at_243) rfl ?_
  show Steps p.tables e below (T6.setTop (mkF m 245 #[s0, s1, s2, s3, s4, s5, s6, s7, s8, s9, s10, s11, s12, s13, s14, .val (.int (Int32.ofNat q0)), .val (.int (Int32.ofNat q1)), .val (.int (Int32.ofNat q2)), .val (.long j18), .second, .val (.long j20), .second, .val (.long j22), .second, .val (.ref o24)] [(.int (Int32.ofNat q1)), (.ref o24)])) _
  refine XS.lload X6.here hx rfl (hb hby at_245) rfl ?_
  show Steps p.tables e below (T6.setTop (mkF m 247 #[s0, s1, s2, s3, s4, s5, s6, s7, s8, s9, s10, s11, s12, s13, s14, .val (.int (Int32.ofNat q0)), .val (.int (Int32.ofNat q1)), .val (.int (Int32.ofNat q2)), .val (.long j18), .second, .val (.long j20), .second, .val (.long j22), .second, .val (.ref o24)] [(.long j20), (.int (Int32.ofNat q1)), (.ref o24)])) _
  refine st7.trans ?_
  show Steps p.tables e below (T7.setTop (mkF m 250 #[s0, s1, s2, s3, s4, s5, s6, s7, s8, s9, s10, s11, s12, s13, s14, .val (.int (Int32.ofNat q0)), .val (.int (Int32.ofNat q1)), .val (.int (Int32.ofNat q2)), .val (.long j18), .second, .val (.long j20), .second, .val (.long j22), .second, .val (.ref o24)] [])) _
  refine XS.aload X7.here hx rfl (hb hby at_250) rfl rfl ?_
  show Steps p.tables e below (T7.setTop (mkF m 252 #[s0, s1, s2, s3, s4, s5, s6, s7, s8, s9, s10, s11, s12, s13, s14, .val (.int (Int32.ofNat q0)), .val (.int (Int32.ofNat q1)), .val (.int (Int32.ofNat q2)), .val (.long j18), .second, .val (.long j20), .second, .val (.long j22), .second, .val (.ref o24)] [(.ref o24)])) _
  refine XS.iload X7.here hx rfl (hb hby at_252) rfl ?_
  show Steps p.tables e below (T7.setTop (mkF m 254 #[s0, s1, s2, s3, s4, s5, s6, s7, s8, s9, s10, s11, s12, s13, s14, .val (.int (Int32.ofNat q0)), .val (.int (Int32.ofNat q1)), .val (.int (Int32.ofNat q2)), .val (.long j18), .second, .val (.long j20), .second, .val (.long j22), .second, .val (.ref o24)] [(.int (Int32.ofNat q2)), (.ref o24)])) _
  refine XS.lload X7.here hx rfl (hb hby at_254) rfl ?_
  show Steps p.tables e below (T7.setTop (mkF m 256 #[s0, s1, s2, s3, s4, s5, s6, s7, s8, s9, s10, s11, s12, s13, s14, .val (.int (Int32.ofNat q0)), .val (.int (Int32.ofNat q1)), .val (.int (Int32.ofNat q2)), .val (.long j18), .second, .val (.long j20), .second, .val (.long j22), .second, .val (.ref o24)] [(.long j22), (.int (Int32.ofNat q2)), (.ref o24)])) _
  refine st8.trans ?_
  exact kt
theorem pd_0_4 : parseMethodDescriptor "()I" = some ⟨[], some .int⟩ := by decide +kernel
theorem pd_0_5 : parseMethodDescriptor "(I)I" = some ⟨[.int], some .int⟩ := by decide +kernel
theorem pd_0_6 : parseMethodDescriptor "(I)J" = some ⟨[.int], some .long⟩ := by decide +kernel
set_option maxRecDepth 65536 in
set_option maxHeartbeats 40000000 in
theorem tn0_259_357 {p : Program} {l : Launch} {e : Env} {s : State} {m : MethodId} {args : Array Value} {below : List Frame} {meth : Method} {c : Code} {T0 : State} {locs : List Loc} {Z : State} {a0 : Array Value} {h0 : Heap} {n0 : Nat} (s0 : Slot) (s1 : Slot) (s2 : Slot) (s3 : Slot) (s4 : Slot) (s5 : Slot) (s6 : Slot) (s7 : Slot) (M : Nat) (L0 : Nat) (L1 : Nat) (L2 : Nat) (s12 : Slot) (s13 : Slot) (s14 : Slot) (q0 : Nat) (q1 : Nat) (q2 : Nat) (j18 : Int64) (j20 : Int64) (j22 : Int64) (o24 : Addr) (ca pa : Addr) (f : Nat → Nat) (g : Nat → Int64)
    (X0 : Stand p l e room_1 s m args below meth c T0 locs 5 32) (hx : p.tables.exec = Jvm.exec) (hZ : Z.Warmed39 s.vm) (hw : ∀ d ∈ tables_1, d.before a0 Z = true) (hby : c.code = code) (hml : c.maxLocals = 25) (hown : s.vm.findClass "com/example/upweight/upweight/HeldTermsAddPinLaw" = some m.cls) (e0 : T0.heap = h0) (N0 : Fr n0 locs) (Z0 : n0 ≤ h0.size) (E_o24 : Exa Z h0 o24 "com/example/upweight/upweight/HeldTerms") (HT : own_HT Z n0 h0 o24 ca pa 3 f g) (hq0 : q0 < 4) (hq1 : q1 < 4) (hq2 : q2 < 4) (hM : M < 4) (hf0 : f 0 = L0) (hf1 : f 1 = L1) (hf2 : f 2 = L2) (hg0 : g q0 = j18) (hg1 : g q1 = j20) (hg2 : g q2 = j22) (hgM : g M = 0) :
    ∃ (T' : State) (h' : Heap) (locs' : List Loc), Stand p l e room_1 s m args below meth c T' locs' 5 32 ∧ T'.heap = h' ∧ Fr n0 locs' ∧ n0 ≤ h'.size ∧ (True) ∧
      ∀ target, Steps p.tables e below (T'.setTop (mkF m 357 #[s0, s1, s2, s3, s4, s5, s6, s7, .val (.int (Int32.ofNat M)), .val (.int (Int32.ofNat L0)), .val (.int (Int32.ofNat L1)), .val (.int (Int32.ofNat L2)), s12, s13, s14, .val (.int (Int32.ofNat q0)), .val (.int (Int32.ofNat q1)), .val (.int (Int32.ofNat q2)), .val (.long j18), .second, .val (.long j20), .second, .val (.long j22), .second, .val (.ref o24)] [(.int (1 : Int32))])) target → Steps p.tables e below (T0.setTop (mkF m 259 #[s0, s1, s2, s3, s4, s5, s6, s7, .val (.int (Int32.ofNat M)), .val (.int (Int32.ofNat L0)), .val (.int (Int32.ofNat L1)), .val (.int (Int32.ofNat L2)), s12, s13, s14, .val (.int (Int32.ofNat q0)), .val (.int (Int32.ofNat q1)), .val (.int (Int32.ofNat q2)), .val (.long j18), .second, .val (.long j20), .second, .val (.long j22), .second, .val (.ref o24)] [])) target := by
  obtain ⟨cq6, kq6, q6a, q6b, q6c⟩ := isOf hZ e0 E_o24
  obtain ⟨_, _, ⟨T6, L6, k6, n6⟩, -, X6, ⟨Lc6, hQ6, l6, y6, z6⟩, st6⟩ := X0.virtualBack hx (y := (⟨"com/example/upweight/upweight/HeldTerms", "size", "()I"⟩ : MethodName)) (z := (⟨"com/example/upweight/upweight/HeldTerms", "size", "()I"⟩ : MethodName)) hown (mvT hZ (hw _ (List.mem_of_getElem? (i := 28) rfl))) (mvT hZ (hw _ (List.mem_of_getElem? (i := 29) rfl))) (notFace_of_selects (args := #[]) (mvT hZ (hw _ (List.mem_of_getElem? (i := 31) rfl)))) (mvT hZ (hw _ (List.mem_of_getElem? (i := 31) rfl))) (mvT hZ (hw _ (List.mem_of_getElem? (i := 30) rfl))) (by decide) (backOf (W := 0) (rm5 l Z a0 hw [] o24 (Int32.ofNat 3) h0 n0 Z0 HT.2.2.2.1) hZ (hw _ (List.mem_of_getElem? (i := 32) rfl)) (hw _ (List.mem_of_getElem? (i := 9) rfl)) (by decide) (by decide)) q6a q6c (g := (mkF m 261 #[s0, s1, s2, s3, s4, s5, s6, s7, .val (.int (Int32.ofNat M)), .val (.int (Int32.ofNat L0)), .val (.int (Int32.ofNat L1)), .val (.int (Int32.ofNat L2)), s12, s13, s14, .val (.int (Int32.ofNat q0)), .val (.int (Int32.ofNat q1)), .val (.int (Int32.ofNat q2)), .val (.long j18), .second, .val (.long j20), .second, .val (.long j22), .second, .val (.ref o24)] [(.ref o24)])) rfl (by rw [hml]; rfl) (Steps.refl _) (argsL := []) (rest := []) (lenOf pd_0_4 rfl) rfl (by show 2 * 0 + _ ≤ _; exact Nat.le_of_eq rfl) (hb hby at_261) (fun _ _ => ⟨rfl, e0, (Nat.le_of_ble_eq_true rfl), (Nat.le_of_ble_eq_true rfl)⟩)
  dsimp only [Pt.U, Pt.locs, Pt.cells, Pt.slots] at X6 l6 y6 z6 st6 hQ6
  subst l6 y6 z6
  obtain ⟨rfl, N6q, q6⟩ := hQ6
  have HT6 : own_HT Z n0 T6.heap o24 ca pa 3 f g := by rw [q6]; exact HT
  have Z6 : n0 ≤ T6.heap.size := by rw [q6]; exact Z0
  have N6 := Fr.app N0 N6q
  obtain ⟨cq7, kq7, q7a, q7b, q7c⟩ := isOf hZ rfl HT6.1
  obtain ⟨_, _, ⟨T7, L7, k7, n7⟩, -, X7, ⟨Lc7, hQ7, l7, y7, z7⟩, st7⟩ := X6.virtualBack hx (y := (⟨"com/example/upweight/upweight/HeldTerms", "place", "(I)I"⟩ : MethodName)) (z := (⟨"com/example/upweight/upweight/HeldTerms", "place", "(I)I"⟩ : MethodName)) hown (mvT hZ (hw _ (List.mem_of_getElem? (i := 33) rfl))) (mvT hZ (hw _ (List.mem_of_getElem? (i := 34) rfl))) (notFace_of_selects (args := #[]) (mvT hZ (hw _ (List.mem_of_getElem? (i := 36) rfl)))) (mvT hZ (hw _ (List.mem_of_getElem? (i := 36) rfl))) (mvT hZ (hw _ (List.mem_of_getElem? (i := 35) rfl))) (by decide) (backOf (W := 0) (own_plc l Z a0 hw [] o24 ca pa 3 f g 0 (by decide) T6.heap n0 Z6 HT6) hZ (hw _ (List.mem_of_getElem? (i := 37) rfl)) (hw _ (List.mem_of_getElem? (i := 9) rfl)) (by decide) (by decide)) q7a q7c (g := (mkF m 271 #[s0, s1, s2, s3, s4, s5, s6, s7, .val (.int (Int32.ofNat M)), .val (.int (Int32.ofNat L0)), .val (.int (Int32.ofNat L1)), .val (.int (Int32.ofNat L2)), s12, s13, s14, .val (.int (Int32.ofNat q0)), .val (.int (Int32.ofNat q1)), .val (.int (Int32.ofNat q2)), .val (.long j18), .second, .val (.long j20), .second, .val (.long j22), .second, .val (.ref o24)] [(.int (0 : Int32)), (.ref o24)])) rfl (by rw [hml]; rfl) (Steps.refl _) (argsL := [(.int (0 : Int32))]) (rest := []) (lenOf pd_0_5 rfl) rfl (by show 2 * 0 + _ ≤ _; exact Nat.le_of_eq rfl) (hb hby at_271) (fun _ _ => ⟨rfl, rfl, (Nat.le_of_ble_eq_true rfl), (Nat.le_of_ble_eq_true rfl)⟩)
  dsimp only [Pt.U, Pt.locs, Pt.cells, Pt.slots] at X7 l7 y7 z7 st7 hQ7
  subst l7 y7 z7
  obtain ⟨rfl, N7q, q7⟩ := hQ7
  have HT7 : own_HT Z n0 T7.heap o24 ca pa 3 f g := by rw [q7]; exact HT6
  have Z7 : n0 ≤ T7.heap.size := by rw [q7]; exact Z6
  have N7 := Fr.app N6 N7q
  obtain ⟨cq8, kq8, q8a, q8b, q8c⟩ := isOf hZ rfl HT7.1
  obtain ⟨_, _, ⟨T8, L8, k8, n8⟩, -, X8, ⟨Lc8, hQ8, l8, y8, z8⟩, st8⟩ := X7.virtualBack hx (y := (⟨"com/example/upweight/upweight/HeldTerms", "place", "(I)I"⟩ : MethodName)) (z := (⟨"com/example/upweight/upweight/HeldTerms", "place", "(I)I"⟩ : MethodName)) hown (mvT hZ (hw _ (List.mem_of_getElem? (i := 33) rfl))) (mvT hZ (hw _ (List.mem_of_getElem? (i := 34) rfl))) (notFace_of_selects (args := #[]) (mvT hZ (hw _ (List.mem_of_getElem? (i := 36) rfl)))) (mvT hZ (hw _ (List.mem_of_getElem? (i := 36) rfl))) (mvT hZ (hw _ (List.mem_of_getElem? (i := 35) rfl))) (by decide) (backOf (W := 0) (own_plc l Z a0 hw [] o24 ca pa 3 f g 1 (by decide) T7.heap n0 Z7 HT7) hZ (hw _ (List.mem_of_getElem? (i := 37) rfl)) (hw _ (List.mem_of_getElem? (i := 9) rfl)) (by decide) (by decide)) q8a q8c (g := (mkF m 282 #[s0, s1, s2, s3, s4, s5, s6, s7, .val (.int (Int32.ofNat M)), .val (.int (Int32.ofNat L0)), .val (.int (Int32.ofNat L1)), .val (.int (Int32.ofNat L2)), s12, s13, s14, .val (.int (Int32.ofNat q0)), .val (.int (Int32.ofNat q1)), .val (.int (Int32.ofNat q2)), .val (.long j18), .second, .val (.long j20), .second, .val (.long j22), .second, .val (.ref o24)] [(.int (1 : Int32)), (.ref o24)])) rfl (by rw [hml]; rfl) (Steps.refl _) (argsL := [(.int (1 : Int32))]) (rest := []) (lenOf pd_0_5 rfl) rfl (by show 2 * 0 + _ ≤ _; exact Nat.le_of_eq rfl) (hb hby at_282) (fun _ _ => ⟨rfl, rfl, (Nat.le_of_ble_eq_true rfl), (Nat.le_of_ble_eq_true rfl)⟩)
  dsimp only [Pt.U, Pt.locs, Pt.cells, Pt.slots] at X8 l8 y8 z8 st8 hQ8
  subst l8 y8 z8
  obtain ⟨rfl, N8q, q8⟩ := hQ8
  have HT8 : own_HT Z n0 T8.heap o24 ca pa 3 f g := by rw [q8]; exact HT7
  have Z8 : n0 ≤ T8.heap.size := by rw [q8]; exact Z7
  have N8 := Fr.app N7 N8q
  obtain ⟨cq9, kq9, q9a, q9b, q9c⟩ := isOf hZ rfl HT8.1
  obtain ⟨_, _, ⟨T9, L9, k9, n9⟩, -, X9, ⟨Lc9, hQ9, l9, y9, z9⟩, st9⟩ := X8.virtualBack hx (y := (⟨"com/example/upweight/upweight/HeldTerms", "place", "(I)I"⟩ : MethodName)) (z := (⟨"com/example/upweight/upweight/HeldTerms", "place", "(I)I"⟩ : MethodName)) hown (mvT hZ (hw _ (List.mem_of_getElem? (i := 33) rfl))) (mvT hZ (hw _ (List.mem_of_getElem? (i := 34) rfl))) (notFace_of_selects (args := #[]) (mvT hZ (hw _ (List.mem_of_getElem? (i := 36) rfl)))) (mvT hZ (hw _ (List.mem_of_getElem? (i := 36) rfl))) (mvT hZ (hw _ (List.mem_of_getElem? (i := 35) rfl))) (by decide) (backOf (W := 0) (own_plc l Z a0 hw [] o24 ca pa 3 f g 2 (by decide) T8.heap n0 Z8 HT8) hZ (hw _ (List.mem_of_getElem? (i := 37) rfl)) (hw _ (List.mem_of_getElem? (i := 9) rfl)) (by decide) (by decide)) q9a q9c (g := (mkF m 293 #[s0, s1, s2, s3, s4, s5, s6, s7, .val (.int (Int32.ofNat M)), .val (.int (Int32.ofNat L0)), .val (.int (Int32.ofNat L1)), .val (.int (Int32.ofNat L2)), s12, s13, s14, .val (.int (Int32.ofNat q0)), .val (.int (Int32.ofNat q1)), .val (.int (Int32.ofNat q2)), .val (.long j18), .second, .val (.long j20), .second, .val (.long j22), .second, .val (.ref o24)] [(.int (2 : Int32)), (.ref o24)])) rfl (by rw [hml]; rfl) (Steps.refl _) (argsL := [(.int (2 : Int32))]) (rest := []) (lenOf pd_0_5 rfl) rfl (by show 2 * 0 + _ ≤ _; exact Nat.le_of_eq rfl) (hb hby at_293) (fun _ _ => ⟨rfl, rfl, (Nat.le_of_ble_eq_true rfl), (Nat.le_of_ble_eq_true rfl)⟩)
  dsimp only [Pt.U, Pt.locs, Pt.cells, Pt.slots] at X9 l9 y9 z9 st9 hQ9
  subst l9 y9 z9
  obtain ⟨rfl, N9q, q9⟩ := hQ9
  have HT9 : own_HT Z n0 T9.heap o24 ca pa 3 f g := by rw [q9]; exact HT8
  have Z9 : n0 ≤ T9.heap.size := by rw [q9]; exact Z8
  have N9 := Fr.app N8 N9q
  obtain ⟨cq10, kq10, q10a, q10b, q10c⟩ := isOf hZ rfl HT9.1
  obtain ⟨_, _, ⟨T10, L10, k10, n10⟩, -, X10, ⟨Lc10, hQ10, l10, y10, z10⟩, st10⟩ := X9.virtualBack hx (y := (⟨"com/example/upweight/upweight/HeldTerms", "count", "(I)J"⟩ : MethodName)) (z := (⟨"com/example/upweight/upweight/HeldTerms", "count", "(I)J"⟩ : MethodName)) hown (mvT hZ (hw _ (List.mem_of_getElem? (i := 38) rfl))) (mvT hZ (hw _ (List.mem_of_getElem? (i := 39) rfl))) (notFace_of_selects (args := #[]) (mvT hZ (hw _ (List.mem_of_getElem? (i := 41) rfl)))) (mvT hZ (hw _ (List.mem_of_getElem? (i := 41) rfl))) (mvT hZ (hw _ (List.mem_of_getElem? (i := 40) rfl))) (by decide) (backOf (W := 0) (own_cnt l Z a0 hw [] o24 ca pa 3 f g q0 hq0 T9.heap n0 Z9 HT9) hZ (hw _ (List.mem_of_getElem? (i := 42) rfl)) (hw _ (List.mem_of_getElem? (i := 9) rfl)) (by decide) (by decide)) q10a q10c (g := (mkF m 305 #[s0, s1, s2, s3, s4, s5, s6, s7, .val (.int (Int32.ofNat M)), .val (.int (Int32.ofNat L0)), .val (.int (Int32.ofNat L1)), .val (.int (Int32.ofNat L2)), s12, s13, s14, .val (.int (Int32.ofNat q0)), .val (.int (Int32.ofNat q1)), .val (.int (Int32.ofNat q2)), .val (.long j18), .second, .val (.long j20), .second, .val (.long j22), .second, .val (.ref o24)] [(.int (Int32.ofNat q0)), (.ref o24)])) rfl (by rw [hml]; rfl) (Steps.refl _) (argsL := [(.int (Int32.ofNat q0))]) (rest := []) (lenOf pd_0_6 rfl) rfl (by show 2 * 0 + _ ≤ _; exact Nat.le_of_eq rfl) (hb hby at_305) (fun _ _ => ⟨rfl, rfl, (Nat.le_of_ble_eq_true rfl), (Nat.le_of_ble_eq_true rfl)⟩)
  dsimp only [Pt.U, Pt.locs, Pt.cells, Pt.slots] at X10 l10 y10 z10 st10 hQ10
  subst l10 y10 z10
  obtain ⟨rfl, N10q, q10⟩ := hQ10
  have HT10 : own_HT Z n0 T10.heap o24 ca pa 3 f g := by rw [q10]; exact HT9
  have Z10 : n0 ≤ T10.heap.size := by rw [q10]; exact Z9
  have N10 := Fr.app N9 N10q
  obtain ⟨cq11, kq11, q11a, q11b, q11c⟩ := isOf hZ rfl HT10.1
  obtain ⟨_, _, ⟨T11, L11, k11, n11⟩, -, X11, ⟨Lc11, hQ11, l11, y11, z11⟩, st11⟩ := X10.virtualBack hx (y := (⟨"com/example/upweight/upweight/HeldTerms", "count", "(I)J"⟩ : MethodName)) (z := (⟨"com/example/upweight/upweight/HeldTerms", "count", "(I)J"⟩ : MethodName)) hown (mvT hZ (hw _ (List.mem_of_getElem? (i := 38) rfl))) (mvT hZ (hw _ (List.mem_of_getElem? (i := 39) rfl))) (notFace_of_selects (args := #[]) (mvT hZ (hw _ (List.mem_of_getElem? (i := 41) rfl)))) (mvT hZ (hw _ (List.mem_of_getElem? (i := 41) rfl))) (mvT hZ (hw _ (List.mem_of_getElem? (i := 40) rfl))) (by decide) (backOf (W := 0) (own_cnt l Z a0 hw [] o24 ca pa 3 f g q1 hq1 T10.heap n0 Z10 HT10) hZ (hw _ (List.mem_of_getElem? (i := 42) rfl)) (hw _ (List.mem_of_getElem? (i := 9) rfl)) (by decide) (by decide)) q11a q11c (g := (mkF m 318 #[s0, s1, s2, s3, s4, s5, s6, s7, .val (.int (Int32.ofNat M)), .val (.int (Int32.ofNat L0)), .val (.int (Int32.ofNat L1)), .val (.int (Int32.ofNat L2)), s12, s13, s14, .val (.int (Int32.ofNat q0)), .val (.int (Int32.ofNat q1)), .val (.int (Int32.ofNat q2)), .val (.long j18), .second, .val (.long j20), .second, .val (.long j22), .second, .val (.ref o24)] [(.int (Int32.ofNat q1)), (.ref o24)])) rfl (by rw [hml]; rfl) (Steps.refl _) (argsL := [(.int (Int32.ofNat q1))]) (rest := []) (lenOf pd_0_6 rfl) rfl (by show 2 * 0 + _ ≤ _; exact Nat.le_of_eq rfl) (hb hby at_318) (fun _ _ => ⟨rfl, rfl, (Nat.le_of_ble_eq_true rfl), (Nat.le_of_ble_eq_true rfl)⟩)
  dsimp only [Pt.U, Pt.locs, Pt.cells, Pt.slots] at X11 l11 y11 z11 st11 hQ11
  subst l11 y11 z11
  obtain ⟨rfl, N11q, q11⟩ := hQ11
  have HT11 : own_HT Z n0 T11.heap o24 ca pa 3 f g := by rw [q11]; exact HT10
  have Z11 : n0 ≤ T11.heap.size := by rw [q11]; exact Z10
  have N11 := Fr.app N10 N11q
  obtain ⟨cq12, kq12, q12a, q12b, q12c⟩ := isOf hZ rfl HT11.1
  obtain ⟨_, _, ⟨T12, L12, k12, n12⟩, -, X12, ⟨Lc12, hQ12, l12, y12, z12⟩, st12⟩ := X11.virtualBack hx (y := (⟨"com/example/upweight/upweight/HeldTerms", "count", "(I)J"⟩ : MethodName)) (z := (⟨"com/example/upweight/upweight/HeldTerms", "count", "(I)J"⟩ : MethodName)) hown (mvT hZ (hw _ (List.mem_of_getElem? (i := 38) rfl))) (mvT hZ (hw _ (List.mem_of_getElem? (i := 39) rfl))) (notFace_of_selects (args := #[]) (mvT hZ (hw _ (List.mem_of_getElem? (i := 41) rfl)))) (mvT hZ (hw _ (List.mem_of_getElem? (i := 41) rfl))) (mvT hZ (hw _ (List.mem_of_getElem? (i := 40) rfl))) (by decide) (backOf (W := 0) (own_cnt l Z a0 hw [] o24 ca pa 3 f g q2 hq2 T11.heap n0 Z11 HT11) hZ (hw _ (List.mem_of_getElem? (i := 42) rfl)) (hw _ (List.mem_of_getElem? (i := 9) rfl)) (by decide) (by decide)) q12a q12c (g := (mkF m 331 #[s0, s1, s2, s3, s4, s5, s6, s7, .val (.int (Int32.ofNat M)), .val (.int (Int32.ofNat L0)), .val (.int (Int32.ofNat L1)), .val (.int (Int32.ofNat L2)), s12, s13, s14, .val (.int (Int32.ofNat q0)), .val (.int (Int32.ofNat q1)), .val (.int (Int32.ofNat q2)), .val (.long j18), .second, .val (.long j20), .second, .val (.long j22), .second, .val (.ref o24)] [(.int (Int32.ofNat q2)), (.ref o24)])) rfl (by rw [hml]; rfl) (Steps.refl _) (argsL := [(.int (Int32.ofNat q2))]) (rest := []) (lenOf pd_0_6 rfl) rfl (by show 2 * 0 + _ ≤ _; exact Nat.le_of_eq rfl) (hb hby at_331) (fun _ _ => ⟨rfl, rfl, (Nat.le_of_ble_eq_true rfl), (Nat.le_of_ble_eq_true rfl)⟩)
  dsimp only [Pt.U, Pt.locs, Pt.cells, Pt.slots] at X12 l12 y12 z12 st12 hQ12
  subst l12 y12 z12
  obtain ⟨rfl, N12q, q12⟩ := hQ12
  have HT12 : own_HT Z n0 T12.heap o24 ca pa 3 f g := by rw [q12]; exact HT11
  have Z12 : n0 ≤ T12.heap.size := by rw [q12]; exact Z11
  have N12 := Fr.app N11 N12q
  obtain ⟨cq13, kq13, q13a, q13b, q13c⟩ := isOf hZ rfl HT12.1
  obtain ⟨_, _, ⟨T13, L13, k13, n13⟩, -, X13, ⟨Lc13, hQ13, l13, y13, z13⟩, st13⟩ := X12.virtualBack hx (y := (⟨"com/example/upweight/upweight/HeldTerms", "count", "(I)J"⟩ : MethodName)) (z := (⟨"com/example/upweight/upweight/HeldTerms", "count", "(I)J"⟩ : MethodName)) hown (mvT hZ (hw _ (List.mem_of_getElem? (i := 38) rfl))) (mvT hZ (hw _ (List.mem_of_getElem? (i := 39) rfl))) (notFace_of_selects (args := #[]) (mvT hZ (hw _ (List.mem_of_getElem? (i := 41) rfl)))) (mvT hZ (hw _ (List.mem_of_getElem? (i := 41) rfl))) (mvT hZ (hw _ (List.mem_of_getElem? (i := 40) rfl))) (by decide) (backOf (W := 0) (own_cnt l Z a0 hw [] o24 ca pa 3 f g M hM T12.heap n0 Z12 HT12) hZ (hw _ (List.mem_of_getElem? (i := 42) rfl)) (hw _ (List.mem_of_getElem? (i := 9) rfl)) (by decide) (by decide)) q13a q13c (g := (mkF m 344 #[s0, s1, s2, s3, s4, s5, s6, s7, .val (.int (Int32.ofNat M)), .val (.int (Int32.ofNat L0)), .val (.int (Int32.ofNat L1)), .val (.int (Int32.ofNat L2)), s12, s13, s14, .val (.int (Int32.ofNat q0)), .val (.int (Int32.ofNat q1)), .val (.int (Int32.ofNat q2)), .val (.long j18), .second, .val (.long j20), .second, .val (.long j22), .second, .val (.ref o24)] [(.int (Int32.ofNat M)), (.ref o24)])) rfl (by rw [hml]; rfl) (Steps.refl _) (argsL := [(.int (Int32.ofNat M))]) (rest := []) (lenOf pd_0_6 rfl) rfl (by show 2 * 0 + _ ≤ _; exact Nat.le_of_eq rfl) (hb hby at_344) (fun _ _ => ⟨rfl, rfl, (Nat.le_of_ble_eq_true rfl), (Nat.le_of_ble_eq_true rfl)⟩)
  dsimp only [Pt.U, Pt.locs, Pt.cells, Pt.slots] at X13 l13 y13 z13 st13 hQ13
  subst l13 y13 z13
  obtain ⟨rfl, N13q, q13⟩ := hQ13
  have HT13 : own_HT Z n0 T13.heap o24 ca pa 3 f g := by rw [q13]; exact HT12
  have Z13 : n0 ≤ T13.heap.size := by rw [q13]; exact Z12
  have N13 := Fr.app N12 N13q
  refine ⟨T13, _, _, X13, rfl, N13, Z13, trivial, fun target kt => ?_⟩
  show Steps p.tables e below (T0.setTop (mkF m 259 #[s0, s1, s2, s3, s4, s5, s6, s7, .val (.int (Int32.ofNat M)), .val (.int (Int32.ofNat L0)), .val (.int (Int32.ofNat L1)), .val (.int (Int32.ofNat L2)), s12, s13, s14, .val (.int (Int32.ofNat q0)), .val (.int (Int32.ofNat q1)), .val (.int (Int32.ofNat q2)), .val (.long j18), .second, .val (.long j20), .second, .val (.long j22), .second, .val (.ref o24)] [])) _
  refine XS.aload X0.here hx rfl (hb hby at_259) rfl rfl ?_
  show Steps p.tables e below (T0.setTop (mkF m 261 #[s0, s1, s2, s3, s4, s5, s6, s7, .val (.int (Int32.ofNat M)), .val (.int (Int32.ofNat L0)), .val (.int (Int32.ofNat L1)), .val (.int (Int32.ofNat L2)), s12, s13, s14, .val (.int (Int32.ofNat q0)), .val (.int (Int32.ofNat q1)), .val (.int (Int32.ofNat q2)), .val (.long j18), .second, .val (.long j20), .second, .val (.long j22), .second, .val (.ref o24)] [(.ref o24)])) _
  refine st6.trans ?_
  show Steps p.tables e below (T6.setTop (mkF m 264 #[s0, s1, s2, s3, s4, s5, s6, s7, .val (.int (Int32.ofNat M)), .val (.int (Int32.ofNat L0)), .val (.int (Int32.ofNat L1)), .val (.int (Int32.ofNat L2)), s12, s13, s14, .val (.int (Int32.ofNat q0)), .val (.int (Int32.ofNat q1)), .val (.int (Int32.ofNat q2)), .val (.long j18), .second, .val (.long j20), .second, .val (.long j22), .second, .val (.ref o24)] [(.int (Int32.ofNat 3))])) _
  refine XS.iconst X6.here hx rfl (hb hby at_264) ?_
  show Steps p.tables e below (T6.setTop (mkF m 265 #[s0, s1, s2, s3, s4, s5, s6, s7, .val (.int (Int32.ofNat M)), .val (.int (Int32.ofNat L0)), .val (.int (Int32.ofNat L1)), .val (.int (Int32.ofNat L2)), s12, s13, s14, .val (.int (Int32.ofNat q0)), .val (.int (Int32.ofNat q1)), .val (.int (Int32.ofNat q2)), .val (.long j18), .second, .val (.long j20), .second, .val (.long j22), .second, .val (.ref o24)] [(.int (3 : Int32)), (.int (Int32.ofNat 3))])) _
  refine XS.icmpNo X6.here hx rfl (hb hby at_265) rfl (teq (rfl : (Int32.ofNat 3) = (3 : Int32))).2 ?_
  show Steps p.tables e below (T6.setTop (mkF m 268 #[s0, s1, s2, s3, s4, s5, s6, s7, .val (.int (Int32.ofNat M)), .val (.int (Int32.ofNat L0)), .val (.int (Int32.ofNat L1)), .val (.int (Int32.ofNat L2)), s12, s13, s14, .val (.int (Int32.ofNat q0)), .val (.int (Int32.ofNat q1)), .val (.int (Int32.ofNat q2)), .val (.long j18), .second, .val (.long j20), .second, .val (.long j22), .second, .val (.ref o24)] [])) _
  refine XS.aload X6.here hx rfl (hb hby at_268) rfl rfl ?_
  show Steps p.tables e below (T6.setTop (mkF m 270 #[s0, s1, s2, s3, s4, s5, s6, s7, .val (.int (Int32.ofNat M)), .val (.int (Int32.ofNat L0)), .val (.int (Int32.ofNat L1)), .val (.int (Int32.ofNat L2)), s12, s13, s14, .val (.int (Int32.ofNat q0)), .val (.int (Int32.ofNat q1)), .val (.int (Int32.ofNat q2)), .val (.long j18), .second, .val (.long j20), .second, .val (.long j22), .second, .val (.ref o24)] [(.ref o24)])) _
  refine XS.iconst X6.here hx rfl (hb hby at_270) ?_
  show Steps p.tables e below (T6.setTop (mkF m 271 #[s0, s1, s2, s3, s4, s5, s6, s7, .val (.int (Int32.ofNat M)), .val (.int (Int32.ofNat L0)), .val (.int (Int32.ofNat L1)), .val (.int (Int32.ofNat L2)), s12, s13, s14, .val (.int (Int32.ofNat q0)), .val (.int (Int32.ofNat q1)), .val (.int (Int32.ofNat q2)), .val (.long j18), .second, .val (.long j20), .second, .val (.long j22), .second, .val (.ref o24)] [(.int (0 : Int32)), (.ref o24)])) _
  refine st7.trans ?_
  show Steps p.tables e below (T7.setTop (mkF m 274 #[s0, s1, s2, s3, s4, s5, s6, s7, .val (.int (Int32.ofNat M)), .val (.int (Int32.ofNat L0)), .val (.int (Int32.ofNat L1)), .val (.int (Int32.ofNat L2)), s12, s13, s14, .val (.int (Int32.ofNat q0)), .val (.int (Int32.ofNat q1)), .val (.int (Int32.ofNat q2)), .val (.long j18), .second, .val (.long j20), .second, .val (.long j22), .second, .val (.ref o24)] [(.int (Int32.ofNat (f 0)))])) _
  refine XS.iload X7.here hx rfl (hb hby at_274) rfl ?_
  show Steps p.tables e below (T7.setTop (mkF m 276 #[s0, s1, s2, s3, s4, s5, s6, s7, .val (.int (Int32.ofNat M)), .val (.int (Int32.ofNat L0)), .val (.int (Int32.ofNat L1)), .val (.int (Int32.ofNat L2)), s12, s13, s14, .val (.int (Int32.ofNat q0)), .val (.int (Int32.ofNat q1)), .val (.int (Int32.ofNat q2)), .val (.long j18), .second, .val (.long j20), .second, .val (.long j22), .second, .val (.ref o24)] [(.int (Int32.ofNat L0)), (.int (Int32.ofNat (f 0)))])) _
  refine XS.icmpNo X7.here hx rfl (hb hby at_276) rfl (teq (congrArg Int32.ofNat hf0 : (Int32.ofNat (f 0)) = (Int32.ofNat L0))).2 ?_
  show Steps p.tables e below (T7.setTop (mkF m 279 #[s0, s1, s2, s3, s4, s5, s6, s7, .val (.int (Int32.ofNat M)), .val (.int (Int32.ofNat L0)), .val (.int (Int32.ofNat L1)), .val (.int (Int32.ofNat L2)), s12, s13, s14, .val (.int (Int32.ofNat q0)), .val (.int (Int32.ofNat q1)), .val (.int (Int32.ofNat q2)), .val (.long j18), .second, .val (.long j20), .second, .val (.long j22), .second, .val (.ref o24)] [])) _
  refine XS.aload X7.here hx rfl (hb hby at_279) rfl rfl ?_
  show Steps p.tables e below (T7.setTop (mkF m 281 #[s0, s1, s2, s3, s4, s5, s6, s7, .val (.int (Int32.ofNat M)), .val (.int (Int32.ofNat L0)), .val (.int (Int32.ofNat L1)), .val (.int (Int32.ofNat L2)), s12, s13, s14, .val (.int (Int32.ofNat q0)), .val (.int (Int32.ofNat q1)), .val (.int (Int32.ofNat q2)), .val (.long j18), .second, .val (.long j20), .second, .val (.long j22), .second, .val (.ref o24)] [(.ref o24)])) _
  refine XS.iconst X7.here hx rfl (hb hby at_281) ?_
  show Steps p.tables e below (T7.setTop (mkF m 282 #[s0, s1, s2, s3, s4, s5, s6, s7, .val (.int (Int32.ofNat M)), .val (.int (Int32.ofNat L0)), .val (.int (Int32.ofNat L1)), .val (.int (Int32.ofNat L2)), s12, s13, s14, .val (.int (Int32.ofNat q0)), .val (.int (Int32.ofNat q1)), .val (.int (Int32.ofNat q2)), .val (.long j18), .second, .val (.long j20), .second, .val (.long j22), .second, .val (.ref o24)] [(.int (1 : Int32)), (.ref o24)])) _
  refine st8.trans ?_
  show Steps p.tables e below (T8.setTop (mkF m 285 #[s0, s1, s2, s3, s4, s5, s6, s7, .val (.int (Int32.ofNat M)), .val (.int (Int32.ofNat L0)), .val (.int (Int32.ofNat L1)), .val (.int (Int32.ofNat L2)), s12, s13, s14, .val (.int (Int32.ofNat q0)), .val (.int (Int32.ofNat q1)), .val (.int (Int32.ofNat q2)), .val (.long j18), .second, .val (.long j20), .second, .val (.long j22), .second, .val (.ref o24)] [(.int (Int32.ofNat (f 1)))])) _
  refine XS.iload X8.here hx rfl (hb hby at_285) rfl ?_
  show Steps p.tables e below (T8.setTop (mkF m 287 #[s0, s1, s2, s3, s4, s5, s6, s7, .val (.int (Int32.ofNat M)), .val (.int (Int32.ofNat L0)), .val (.int (Int32.ofNat L1)), .val (.int (Int32.ofNat L2)), s12, s13, s14, .val (.int (Int32.ofNat q0)), .val (.int (Int32.ofNat q1)), .val (.int (Int32.ofNat q2)), .val (.long j18), .second, .val (.long j20), .second, .val (.long j22), .second, .val (.ref o24)] [(.int (Int32.ofNat L1)), (.int (Int32.ofNat (f 1)))])) _
  refine XS.icmpNo X8.here hx rfl (hb hby at_287) rfl (teq (congrArg Int32.ofNat hf1 : (Int32.ofNat (f 1)) = (Int32.ofNat L1))).2 ?_
  show Steps p.tables e below (T8.setTop (mkF m 290 #[s0, s1, s2, s3, s4, s5, s6, s7, .val (.int (Int32.ofNat M)), .val (.int (Int32.ofNat L0)), .val (.int (Int32.ofNat L1)), .val (.int (Int32.ofNat L2)), s12, s13, s14, .val (.int (Int32.ofNat q0)), .val (.int (Int32.ofNat q1)), .val (.int (Int32.ofNat q2)), .val (.long j18), .second, .val (.long j20), .second, .val (.long j22), .second, .val (.ref o24)] [])) _
  refine XS.aload X8.here hx rfl (hb hby at_290) rfl rfl ?_
  show Steps p.tables e below (T8.setTop (mkF m 292 #[s0, s1, s2, s3, s4, s5, s6, s7, .val (.int (Int32.ofNat M)), .val (.int (Int32.ofNat L0)), .val (.int (Int32.ofNat L1)), .val (.int (Int32.ofNat L2)), s12, s13, s14, .val (.int (Int32.ofNat q0)), .val (.int (Int32.ofNat q1)), .val (.int (Int32.ofNat q2)), .val (.long j18), .second, .val (.long j20), .second, .val (.long j22), .second, .val (.ref o24)] [(.ref o24)])) _
  refine XS.iconst X8.here hx rfl (hb hby at_292) ?_
  show Steps p.tables e below (T8.setTop (mkF m 293 #[s0, s1, s2, s3, s4, s5, s6, s7, .val (.int (Int32.ofNat M)), .val (.int (Int32.ofNat L0)), .val (.int (Int32.ofNat L1)), .val (.int (Int32.ofNat L2)), s12, s13, s14, .val (.int (Int32.ofNat q0)), .val (.int (Int32.ofNat q1)), .val (.int (Int32.ofNat q2)), .val (.long j18), .second, .val (.long j20), .second, .val (.long j22), .second, .val (.ref o24)] [(.int (2 : Int32)), (.ref o24)])) _
  refine st9.trans ?_
  show Steps p.tables e below (T9.setTop (mkF m 296 #[s0, s1, s2, s3, s4, s5, s6, s7, .val (.int (Int32.ofNat M)), .val (.int (Int32.ofNat L0)), .val (.int (Int32.ofNat L1)), .val (.int (Int32.ofNat L2)), s12, s13, s14, .val (.int (Int32.ofNat q0)), .val (.int (Int32.ofNat q1)), .val (.int (Int32.ofNat q2)), .val (.long j18), .second, .val (.long j20), .second, .val (.long j22), .second, .val (.ref o24)] [(.int (Int32.ofNat (f 2)))])) _
  refine XS.iload X9.here hx rfl (hb hby at_296) rfl ?_
  show Steps p.tables e below (T9.setTop (mkF m 298 #[s0, s1, s2, s3, s4, s5, s6, s7, .val (.int (Int32.ofNat M)), .val (.int (Int32.ofNat L0)), .val (.int (Int32.ofNat L1)), .val (.int (Int32.ofNat L2)), s12, s13, s14, .val (.int (Int32.ofNat q0)), .val (.int (Int32.ofNat q1)), .val (.int (Int32.ofNat q2)), .val (.long j18), .second, .val (.long j20), .second, .val (.long j22), .second, .val (.ref o24)] [(.int (Int32.ofNat L2)), (.int (Int32.ofNat (f 2)))])) _
  refine XS.icmpNo X9.here hx rfl (hb hby at_298) rfl (teq (congrArg Int32.ofNat hf2 : (Int32.ofNat (f 2)) = (Int32.ofNat L2))).2 ?_
  show Steps p.tables e below (T9.setTop (mkF m 301 #[s0, s1, s2, s3, s4, s5, s6, s7, .val (.int (Int32.ofNat M)), .val (.int (Int32.ofNat L0)), .val (.int (Int32.ofNat L1)), .val (.int (Int32.ofNat L2)), s12, s13, s14, .val (.int (Int32.ofNat q0)), .val (.int (Int32.ofNat q1)), .val (.int (Int32.ofNat q2)), .val (.long j18), .second, .val (.long j20), .second, .val (.long j22), .second, .val (.ref o24)] [])) _
  refine XS.aload X9.here hx rfl (hb hby at_301) rfl rfl ?_
  show Steps p.tables e below (T9.setTop (mkF m 303 #[s0, s1, s2, s3, s4, s5, s6, s7, .val (.int (Int32.ofNat M)), .val (.int (Int32.ofNat L0)), .val (.int (Int32.ofNat L1)), .val (.int (Int32.ofNat L2)), s12, s13, s14, .val (.int (Int32.ofNat q0)), .val (.int (Int32.ofNat q1)), .val (.int (Int32.ofNat q2)), .val (.long j18), .second, .val (.long j20), .second, .val (.long j22), .second, .val (.ref o24)] [(.ref o24)])) _
  refine XS.iload X9.here hx rfl (hb hby at_303) rfl ?_
  show Steps p.tables e below (T9.setTop (mkF m 305 #[s0, s1, s2, s3, s4, s5, s6, s7, .val (.int (Int32.ofNat M)), .val (.int (Int32.ofNat L0)), .val (.int (Int32.ofNat L1)), .val (.int (Int32.ofNat L2)), s12, s13, s14, .val (.int (Int32.ofNat q0)), .val (.int (Int32.ofNat q1)), .val (.int (Int32.ofNat q2)), .val (.long j18), .second, .val (.long j20), .second, .val (.long j22), .second, .val (.ref o24)] [(.int (Int32.ofNat q0)), (.ref o24)])) _
  refine st10.trans ?_
  show Steps p.tables e below (T10.setTop (mkF m 308 #[s0, s1, s2, s3, s4, s5, s6, s7, .val (.int (Int32.ofNat M)), .val (.int (Int32.ofNat L0)), .val (.int (Int32.ofNat L1)), .val (.int (Int32.ofNat L2)), s12, s13, s14, .val (.int (Int32.ofNat q0)), .val (.int (Int32.ofNat q1)), .val (.int (Int32.ofNat q2)), .val (.long j18), .second, .val (.long j20), .second, .val (.long j22), .second, .val (.ref o24)] [(.long (g q0))])) _
  refine XS.lload X10.here hx rfl (hb hby at_308) rfl ?_
  show Steps p.tables e below (T10.setTop (mkF m 310 #[s0, s1, s2, s3, s4, s5, s6, s7, .val (.int (Int32.ofNat M)), .val (.int (Int32.ofNat L0)), .val (.int (Int32.ofNat L1)), .val (.int (Int32.ofNat L2)), s12, s13, s14, .val (.int (Int32.ofNat q0)), .val (.int (Int32.ofNat q1)), .val (.int (Int32.ofNat q2)), .val (.long j18), .second, .val (.long j20), .second, .val (.long j22), .second, .val (.ref o24)] [(.long j18), (.long (g q0))])) _
  refine XS.lcmp X10.here hx rfl (hb hby at_310) rfl ?_
  show Steps p.tables e below (T10.setTop (mkF m 311 #[s0, s1, s2, s3, s4, s5, s6, s7, .val (.int (Int32.ofNat M)), .val (.int (Int32.ofNat L0)), .val (.int (Int32.ofNat L1)), .val (.int (Int32.ofNat L2)), s12, s13, s14, .val (.int (Int32.ofNat q0)), .val (.int (Int32.ofNat q1)), .val (.int (Int32.ofNat q2)), .val (.long j18), .second, .val (.long j20), .second, .val (.long j22), .second, .val (.ref o24)] [(.int (lcmpW (g q0) j18))])) _
  refine XS.ifNo X10.here hx rfl (hb hby at_311) rfl ((if0 _ _).trans (teq ((lw_eq _ _).mpr hg0 : (lcmpW (g q0) j18) = (0 : Int32))).2) ?_
  show Steps p.tables e below (T10.setTop (mkF m 314 #[s0, s1, s2, s3, s4, s5, s6, s7, .val (.int (Int32.ofNat M)), .val (.int (Int32.ofNat L0)), .val (.int (Int32.ofNat L1)), .val (.int (Int32.ofNat L2)), s12, s13, s14, .val (.int (Int32.ofNat q0)), .val (.int (Int32.ofNat q1)), .val (.int (Int32.ofNat q2)), .val (.long j18), .second, .val (.long j20), .second, .val (.long j22), .second, .val (.ref o24)] [])) _
  refine XS.aload X10.here hx rfl (hb hby at_314) rfl rfl ?_
  show Steps p.tables e below (T10.setTop (mkF m 316 #[s0, s1, s2, s3, s4, s5, s6, s7, .val (.int (Int32.ofNat M)), .val (.int (Int32.ofNat L0)), .val (.int (Int32.ofNat L1)), .val (.int (Int32.ofNat L2)), s12, s13, s14, .val (.int (Int32.ofNat q0)), .val (.int (Int32.ofNat q1)), .val (.int (Int32.ofNat q2)), .val (.long j18), .second, .val (.long j20), .second, .val (.long j22), .second, .val (.ref o24)] [(.ref o24)])) _
  refine XS.iload X10.here hx rfl (hb hby at_316) rfl ?_
  show Steps p.tables e below (T10.setTop (mkF m 318 #[s0, s1, s2, s3, s4, s5, s6, s7, .val (.int (Int32.ofNat M)), .val (.int (Int32.ofNat L0)), .val (.int (Int32.ofNat L1)), .val (.int (Int32.ofNat L2)), s12, s13, s14, .val (.int (Int32.ofNat q0)), .val (.int (Int32.ofNat q1)), .val (.int (Int32.ofNat q2)), .val (.long j18), .second, .val (.long j20), .second, .val (.long j22), .second, .val (.ref o24)] [(.int (Int32.ofNat q1)), (.ref o24)])) _
  refine st11.trans ?_
  show Steps p.tables e below (T11.setTop (mkF m 321 #[s0, s1, s2, s3, s4, s5, s6, s7, .val (.int (Int32.ofNat M)), .val (.int (Int32.ofNat L0)), .val (.int (Int32.ofNat L1)), .val (.int (Int32.ofNat L2)), s12, s13, s14, .val (.int (Int32.ofNat q0)), .val (.int (Int32.ofNat q1)), .val (.int (Int32.ofNat q2)), .val (.long j18), .second, .val (.long j20), .second, .val (.long j22), .second, .val (.ref o24)] [(.long (g q1))])) _
  refine XS.lload X11.here hx rfl (hb hby at_321) rfl ?_
  show Steps p.tables e below (T11.setTop (mkF m 323 #[s0, s1, s2, s3, s4, s5, s6, s7, .val (.int (Int32.ofNat M)), .val (.int (Int32.ofNat L0)), .val (.int (Int32.ofNat L1)), .val (.int (Int32.ofNat L2)), s12, s13, s14, .val (.int (Int32.ofNat q0)), .val (.int (Int32.ofNat q1)), .val (.int (Int32.ofNat q2)), .val (.long j18), .second, .val (.long j20), .second, .val (.long j22), .second, .val (.ref o24)] [(.long j20), (.long (g q1))])) _
  refine XS.lcmp X11.here hx rfl (hb hby at_323) rfl ?_
  show Steps p.tables e below (T11.setTop (mkF m 324 #[s0, s1, s2, s3, s4, s5, s6, s7, .val (.int (Int32.ofNat M)), .val (.int (Int32.ofNat L0)), .val (.int (Int32.ofNat L1)), .val (.int (Int32.ofNat L2)), s12, s13, s14, .val (.int (Int32.ofNat q0)), .val (.int (Int32.ofNat q1)), .val (.int (Int32.ofNat q2)), .val (.long j18), .second, .val (.long j20), .second, .val (.long j22), .second, .val (.ref o24)] [(.int (lcmpW (g q1) j20))])) _
  refine XS.ifNo X11.here hx rfl (hb hby at_324) rfl ((if0 _ _).trans (teq ((lw_eq _ _).mpr hg1 : (lcmpW (g q1) j20) = (0 : Int32))).2) ?_
  show Steps p.tables e below (T11.setTop (mkF m 327 #[s0, s1, s2, s3, s4, s5, s6, s7, .val (.int (Int32.ofNat M)), .val (.int (Int32.ofNat L0)), .val (.int (Int32.ofNat L1)), .val (.int (Int32.ofNat L2)), s12, s13, s14, .val (.int (Int32.ofNat q0)), .val (.int (Int32.ofNat q1)), .val (.int (Int32.ofNat q2)), .val (.long j18), .second, .val (.long j20), .second, .val (.long j22), .second, .val (.ref o24)] [])) _
  refine XS.aload X11.here hx rfl (hb hby at_327) rfl rfl ?_
  show Steps p.tables e below (T11.setTop (mkF m 329 #[s0, s1, s2, s3, s4, s5, s6, s7, .val (.int (Int32.ofNat M)), .val (.int (Int32.ofNat L0)), .val (.int (Int32.ofNat L1)), .val (.int (Int32.ofNat L2)), s12, s13, s14, .val (.int (Int32.ofNat q0)), .val (.int (Int32.ofNat q1)), .val (.int (Int32.ofNat q2)), .val (.long j18), .second, .val (.long j20), .second, .val (.long j22), .second, .val (.ref o24)] [(.ref o24)])) _
  refine XS.iload X11.here hx rfl (hb hby at_329) rfl ?_
  show Steps p.tables e below (T11.setTop (mkF m 331 #[s0, s1, s2, s3, s4, s5, s6, s7, .val (.int (Int32.ofNat M)), .val (.int (Int32.ofNat L0)), .val (.int (Int32.ofNat L1)), .val (.int (Int32.ofNat L2)), s12, s13, s14, .val (.int (Int32.ofNat q0)), .val (.int (Int32.ofNat q1)), .val (.int (Int32.ofNat q2)), .val (.long j18), .second, .val (.long j20), .second, .val (.long j22), .second, .val (.ref o24)] [(.int (Int32.ofNat q2)), (.ref o24)])) _
  refine st12.trans ?_
  show Steps p.tables e below (T12.setTop (mkF m 334 #[s0, s1, s2, s3, s4, s5, s6, s7, .val (.int (Int32.ofNat M)), .val (.int (Int32.ofNat L0)), .val (.int (Int32.ofNat L1)), .val (.int (Int32.ofNat L2)), s12, s13, s14, .val (.int (Int32.ofNat q0)), .val (.int (Int32.ofNat q1)), .val (.int (Int32.ofNat q2)), .val (.long j18), .second, .val (.long j20), .second, .val (.long j22), .second, .val (.ref o24)] [(.long (g q2))])) _
  refine XS.lload X12.here hx rfl (hb hby at_334) rfl ?_
  show Steps p.tables e below (T12.setTop (mkF m 336 #[s0, s1, s2, s3, s4, s5, s6, s7, .val (.int (Int32.ofNat M)), .val (.int (Int32.ofNat L0)), .val (.int (Int32.ofNat L1)), .val (.int (Int32.ofNat L2)), s12, s13, s14, .val (.int (Int32.ofNat q0)), .val (.int (Int32.ofNat q1)), .val (.int (Int32.ofNat q2)), .val (.long j18), .second, .val (.long j20), .second, .val (.long j22), .second, .val (.ref o24)] [(.long j22), (.long (g q2))])) _
  refine XS.lcmp X12.here hx rfl (hb hby at_336) rfl ?_
  show Steps p.tables e below (T12.setTop (mkF m 337 #[s0, s1, s2, s3, s4, s5, s6, s7, .val (.int (Int32.ofNat M)), .val (.int (Int32.ofNat L0)), .val (.int (Int32.ofNat L1)), .val (.int (Int32.ofNat L2)), s12, s13, s14, .val (.int (Int32.ofNat q0)), .val (.int (Int32.ofNat q1)), .val (.int (Int32.ofNat q2)), .val (.long j18), .second, .val (.long j20), .second, .val (.long j22), .second, .val (.ref o24)] [(.int (lcmpW (g q2) j22))])) _
  refine XS.ifNo X12.here hx rfl (hb hby at_337) rfl ((if0 _ _).trans (teq ((lw_eq _ _).mpr hg2 : (lcmpW (g q2) j22) = (0 : Int32))).2) ?_
  show Steps p.tables e below (T12.setTop (mkF m 340 #[s0, s1, s2, s3, s4, s5, s6, s7, .val (.int (Int32.ofNat M)), .val (.int (Int32.ofNat L0)), .val (.int (Int32.ofNat L1)), .val (.int (Int32.ofNat L2)), s12, s13, s14, .val (.int (Int32.ofNat q0)), .val (.int (Int32.ofNat q1)), .val (.int (Int32.ofNat q2)), .val (.long j18), .second, .val (.long j20), .second, .val (.long j22), .second, .val (.ref o24)] [])) _
  refine XS.aload X12.here hx rfl (hb hby at_340) rfl rfl ?_
  show Steps p.tables e below (T12.setTop (mkF m 342 #[s0, s1, s2, s3, s4, s5, s6, s7, .val (.int (Int32.ofNat M)), .val (.int (Int32.ofNat L0)), .val (.int (Int32.ofNat L1)), .val (.int (Int32.ofNat L2)), s12, s13, s14, .val (.int (Int32.ofNat q0)), .val (.int (Int32.ofNat q1)), .val (.int (Int32.ofNat q2)), .val (.long j18), .second, .val (.long j20), .second, .val (.long j22), .second, .val (.ref o24)] [(.ref o24)])) _
  refine XS.iload X12.here hx rfl (hb hby at_342) rfl ?_
  show Steps p.tables e below (T12.setTop (mkF m 344 #[s0, s1, s2, s3, s4, s5, s6, s7, .val (.int (Int32.ofNat M)), .val (.int (Int32.ofNat L0)), .val (.int (Int32.ofNat L1)), .val (.int (Int32.ofNat L2)), s12, s13, s14, .val (.int (Int32.ofNat q0)), .val (.int (Int32.ofNat q1)), .val (.int (Int32.ofNat q2)), .val (.long j18), .second, .val (.long j20), .second, .val (.long j22), .second, .val (.ref o24)] [(.int (Int32.ofNat M)), (.ref o24)])) _
  refine st13.trans ?_
  show Steps p.tables e below (T13.setTop (mkF m 347 #[s0, s1, s2, s3, s4, s5, s6, s7, .val (.int (Int32.ofNat M)), .val (.int (Int32.ofNat L0)), .val (.int (Int32.ofNat L1)), .val (.int (Int32.ofNat L2)), s12, s13, s14, .val (.int (Int32.ofNat q0)), .val (.int (Int32.ofNat q1)), .val (.int (Int32.ofNat q2)), .val (.long j18), .second, .val (.long j20), .second, .val (.long j22), .second, .val (.ref o24)] [(.long (g M))])) _
  refine XS.lconst X13.here hx rfl (hb hby at_347) ?_
  show Steps p.tables e below (T13.setTop (mkF m 348 #[s0, s1, s2, s3, s4, s5, s6, s7, .val (.int (Int32.ofNat M)), .val (.int (Int32.ofNat L0)), .val (.int (Int32.ofNat L1)), .val (.int (Int32.ofNat L2)), s12, s13, s14, .val (.int (Int32.ofNat q0)), .val (.int (Int32.ofNat q1)), .val (.int (Int32.ofNat q2)), .val (.long j18), .second, .val (.long j20), .second, .val (.long j22), .second, .val (.ref o24)] [(.long (0 : Int64)), (.long (g M))])) _
  refine XS.lcmp X13.here hx rfl (hb hby at_348) rfl ?_
  show Steps p.tables e below (T13.setTop (mkF m 349 #[s0, s1, s2, s3, s4, s5, s6, s7, .val (.int (Int32.ofNat M)), .val (.int (Int32.ofNat L0)), .val (.int (Int32.ofNat L1)), .val (.int (Int32.ofNat L2)), s12, s13, s14, .val (.int (Int32.ofNat q0)), .val (.int (Int32.ofNat q1)), .val (.int (Int32.ofNat q2)), .val (.long j18), .second, .val (.long j20), .second, .val (.long j22), .second, .val (.ref o24)] [(.int (lcmpW (g M) (0 : Int64)))])) _
  refine XS.ifNo X13.here hx rfl (hb hby at_349) rfl ((if0 _ _).trans (teq ((lw_eq _ _).mpr hgM : (lcmpW (g M) (0 : Int64)) = (0 : Int32))).2) ?_
  show Steps p.tables e below (T13.setTop (mkF m 352 #[s0, s1, s2, s3, s4, s5, s6, s7, .val (.int (Int32.ofNat M)), .val (.int (Int32.ofNat L0)), .val (.int (Int32.ofNat L1)), .val (.int (Int32.ofNat L2)), s12, s13, s14, .val (.int (Int32.ofNat q0)), .val (.int (Int32.ofNat q1)), .val (.int (Int32.ofNat q2)), .val (.long j18), .second, .val (.long j20), .second, .val (.long j22), .second, .val (.ref o24)] [])) _
  refine XS.iconst X13.here hx rfl (hb hby at_352) ?_
  show Steps p.tables e below (T13.setTop (mkF m 353 #[s0, s1, s2, s3, s4, s5, s6, s7, .val (.int (Int32.ofNat M)), .val (.int (Int32.ofNat L0)), .val (.int (Int32.ofNat L1)), .val (.int (Int32.ofNat L2)), s12, s13, s14, .val (.int (Int32.ofNat q0)), .val (.int (Int32.ofNat q1)), .val (.int (Int32.ofNat q2)), .val (.long j18), .second, .val (.long j20), .second, .val (.long j22), .second, .val (.ref o24)] [(.int (1 : Int32))])) _
  refine XS.goto X13.here hx rfl (pc0 := 353) (pc' := 357) rfl (hb hby at_353) (by decide) (by decide) ?_
  exact kt
theorem pn_0 : plainName "com/example/upweight/upweight/HeldTermsAddPinLaw" = true := by first | (simp [plainName, overriddenIn]; done) | decide +kernel
theorem ef_0 (m : MethodId) (x0 : Int32) (x1 : Int32) (x2 : Int64) (x3 : Int64) (x4 : Int64) : entryFrame m #[(.int x0), (.int x1), (.long x2), (.long x3), (.long x4)] maxLocals = mkF m 0 #[.val (.int x0), .val (.int x1), .val (.long x2), .second, .val (.long x3), .second, .val (.long x4), .second, .unset, .unset, .unset, .unset, .unset, .unset, .unset, .unset, .unset, .unset, .unset, .unset, .unset, .unset, .unset, .unset, .unset] [] := by first | (simp [entryFrame, mkF, argsToLocals, Value.category, maxLocals]; done) | rfl

set_option maxRecDepth 65536 in
set_option maxHeartbeats 40000000 in
theorem rm0 (l : Launch) (Z : State) (a0 : Array Value) (hw : ∀ d ∈ tables_1, d.before a0 Z = true) (ws : List Jvm.Cond) (p1 : Int32) (p2 : Int32) (q3 : Int64) (q4 : Int64) (q5 : Int64) (h0 : Heap) (n0 : Nat) (Z0 : n0 ≤ h0.size) :
    MetFree l x (head1 (Jvm.Cond.code x code maxLocals ret :: ws) room_1) (fun a U => a = #[(.int p1), (.int p2), (.long q3), (.long q4), (.long q5)] ∧ Z.Warmed39 U.vm ∧ U.heap = h0) (fun _ _ _ _ _ => True) (fun _ U o U' => ∃ v L, o = .returned v ∧ (v = some (.int 1) ∧ Fr n0 L) ∧ FrameEnd U o U' L room_1.cells room_1.slots) := by
  refine MetFree.of_bodySF (plainFor_of_name pn_0) hisR ?_
  intro p e s m args below meth c s₁ Bd hml0 hP hK
  obtain ⟨rfl, hZ, hh⟩ := hP
  have hx := Bd.exec
  have hby := Bd.bytes
  have hml : c.maxLocals = 25 := hml0
  have hown : s.vm.findClass "com/example/upweight/upweight/HeldTermsAddPinLaw" = some m.cls := findClass_of_methodNamed Bd.named
  have hnm := (name_of_methodNamed Bd.named Bd.method).1
  have X0 : Stand p l e room_1 s m #[(.int p1), (.int p2), (.long q3), (.long q4), (.long q5)] below meth c s₁ [] 0 0 := Stand.of_body Bd
  have e0 : s₁.heap = h0 := by rw [← hh, Bd.state]; rfl
  have N0 := Fr.nil n0
  have pre0 : ∀ t, Steps p.tables e below (s₁.setTop (mkF m 0 #[.val (.int p1), .val (.int p2), .val (.long q3), .second, .val (.long q4), .second, .val (.long q5), .second, .unset, .unset, .unset, .unset, .unset, .unset, .unset, .unset, .unset, .unset, .unset, .unset, .unset, .unset, .unset, .unset, .unset] [])) t → Steps p.tables e below (s₁.setTop (entryFrame m #[(.int p1), (.int p2), (.long q3), (.long q4), (.long q5)] maxLocals)) t := fun t k => castTop (ef_0 m p1 p2 q3 q4 q5) k
  obtain ⟨M, hM4, hM⟩ := own_mask p1
  obtain ⟨Q, hQ6, hQ⟩ := own_rem p2
  obtain ⟨T1, X1, e1, st1⟩ : ∃ (T' : State), Stand p l e room_1 s m #[(.int p1), (.int p2), (.long q3), (.long q4), (.long q5)] below meth c T' [] 0 0 ∧ T'.heap = h0 ∧ ∀ target, Steps p.tables e below (T'.setTop (mkF m 43 #[.val (.int p1), .val (.int p2), .val (.long q3), .second, .val (.long q4), .second, .val (.long q5), .second, .val (.int (Int32.ofNat M)), .val (.int (Int32.ofNat (own_lo M))), .val (.int (Int32.ofNat (own_mid M))), .val (.int (Int32.ofNat (own_hi M))), .unset, .unset, .unset, .unset, .unset, .unset, .unset, .unset, .unset, .unset, .unset, .unset, .unset] [])) target → Steps p.tables e below (s₁.setTop (mkF m 0 #[.val (.int p1), .val (.int p2), .val (.long q3), .second, .val (.long q4), .second, .val (.long q5), .second, .unset, .unset, .unset, .unset, .unset, .unset, .unset, .unset, .unset, .unset, .unset, .unset, .unset, .unset, .unset, .unset, .unset] [])) target := by
    rw [← hM]
    match M, hM4, hM with
    | 0, _, hM => exact own_s0 p1 (.val (.int p2)) (.val (.long q3)) .second (.val (.long q4)) .second (.val (.long q5)) .second .unset .unset .unset .unset .unset .unset .unset .unset .unset .unset .unset .unset .unset X0 hx hZ hw hby hml hown e0 One.u One.u One.u One.u (by rw [hM]; decide) (by rw [hM]; decide) (by rw [hM]; decide)
    | 1, _, hM => exact own_s1 p1 (.val (.int p2)) (.val (.long q3)) .second (.val (.long q4)) .second (.val (.long q5)) .second .unset .unset .unset .unset .unset .unset .unset .unset .unset .unset .unset .unset .unset X0 hx hZ hw hby hml hown e0 One.u One.u One.u One.u (by rw [hM]; decide) (by rw [hM]; decide) (by rw [hM]; decide)
    | 2, _, hM => exact own_s2 p1 (.val (.int p2)) (.val (.long q3)) .second (.val (.long q4)) .second (.val (.long q5)) .second .unset .unset .unset .unset .unset .unset .unset .unset .unset .unset .unset .unset .unset X0 hx hZ hw hby hml hown e0 One.u One.u One.u One.u (by rw [hM]; decide) (by rw [hM]; decide) (by rw [hM]; decide)
    | 3, _, hM => exact own_s3 p1 (.val (.int p2)) (.val (.long q3)) .second (.val (.long q4)) .second (.val (.long q5)) .second .unset .unset .unset .unset .unset .unset .unset .unset .unset .unset .unset .unset .unset X0 hx hZ hw hby hml hown e0 One.u One.u One.u One.u (by rw [hM]; decide) (by rw [hM]; decide) (by rw [hM]; decide)
  obtain ⟨T2, X2, e2, st2⟩ := tn0_43_52 (.val (.int p1)) p2 (.val (.long q3)) .second (.val (.long q4)) .second (.val (.long q5)) .second (.val (.int (Int32.ofNat M))) (.val (.int (Int32.ofNat (own_lo M)))) (.val (.int (Int32.ofNat (own_mid M)))) (.val (.int (Int32.ofNat (own_hi M)))) .unset .unset .unset .unset .unset .unset .unset .unset .unset .unset .unset .unset X1 hx hZ hw hby hml hown e1 One.u (by decide)
  rw [hQ] at st2
  obtain ⟨b1, T3, h3, l3, X3, e3, N3, Z3, ⟨Vp, gb1, K3⟩, st3⟩ := tn0_52_142 (.val (.int p1)) (.val (.int p2)) (.val (.long q3)) .second (.val (.long q4)) .second (.val (.long q5)) .second (.val (.int (Int32.ofNat M))) (.val (.int (Int32.ofNat (own_lo M)))) (.val (.int (Int32.ofNat (own_mid M)))) (.val (.int (Int32.ofNat (own_hi M)))) (.val (.int (Int32.ofNat Q))) .unset .unset .unset .unset .unset .unset .unset .unset .unset .unset .unset X2 hx hZ hw hby hml hown e2 N0 Z0 One.u
  obtain ⟨b2, T4, h4, l4, X4, e4, N4, Z4, ⟨Vs, gb2, K4⟩, st4⟩ := tn0_142_162 (.val (.int p1)) (.val (.int p2)) (.val (.long q3)) .second (.val (.long q4)) .second (.val (.long q5)) .second (.val (.int (Int32.ofNat M))) (own_lo M) (own_mid M) (own_hi M) (.val (.int (Int32.ofNat Q))) (.val (.ref b1)) .unset .unset .unset .unset .unset .unset .unset .unset .unset .unset X3 hx hZ hw hby hml hown e3 N3 Z3 One.u
  obtain ⟨-, clp, Arp, Sp, Hp, -⟩ := Vp.keep K4 nin0
  obtain ⟨-, cls, Ars, Ss, Hs, -⟩ := Vs
  have pl := own_plt M hM4 Q hQ6
  obtain ⟨T5, X5, e5, st5⟩ := tn0_162_202 (.val (.int p1)) (.val (.int p2)) (.val (.long q3)) .second (.val (.long q4)) .second (.val (.long q5)) .second (.val (.int (Int32.ofNat M))) (.val (.int (Int32.ofNat (own_lo M)))) (.val (.int (Int32.ofNat (own_mid M)))) (.val (.int (Int32.ofNat (own_hi M)))) (Int32.ofNat Q) b1 b2 .unset .unset .unset .unset .unset .unset .unset (Int32.ofNat (own_perm (3 * Q + 0))) clp (Int32.ofNat (own_p M Q 0)) cls (Int32.ofNat (own_perm (3 * Q + 1))) (Int32.ofNat (own_p M Q 1)) (Int32.ofNat (own_perm (3 * Q + 2))) (Int32.ofNat (own_p M Q 2)) X4 hx hZ hw hby hml hown e4 Arp (by rw [own_mul3 Q]; exact own_inb Sp (by omega) (by decide)) (by rw [own_mul3 Q, own_nc (by omega)]; exact Hp (3 * Q + 0) (by omega)) Ars (own_inb Ss (pl 0 (by decide)).2 (by decide)) (by rw [own_nc (by have := (pl 0 (by decide)).2; omega)]; exact Hs _ (pl 0 (by decide)).2) One.u (by rw [(show ((3 : Int32) * Int32.ofNat Q) + (1 : Int32) = Int32.ofNat (3 * Q + 1) from own_mul3a Q 1)]; exact own_inb Sp (by omega) (by decide)) (by rw [(show ((3 : Int32) * Int32.ofNat Q) + (1 : Int32) = Int32.ofNat (3 * Q + 1) from own_mul3a Q 1), own_nc (by omega)]; exact Hp (3 * Q + 1) (by omega)) (own_inb Ss (pl 1 (by decide)).2 (by decide)) (by rw [own_nc (by have := (pl 1 (by decide)).2; omega)]; exact Hs _ (pl 1 (by decide)).2) One.u (by rw [(show ((3 : Int32) * Int32.ofNat Q) + (2 : Int32) = Int32.ofNat (3 * Q + 2) from own_mul3a Q 2)]; exact own_inb Sp (by omega) (by decide)) (by rw [(show ((3 : Int32) * Int32.ofNat Q) + (2 : Int32) = Int32.ofNat (3 * Q + 2) from own_mul3a Q 2), own_nc (by omega)]; exact Hp (3 * Q + 2) (by omega)) (own_inb Ss (pl 2 (by decide)).2 (by decide)) (by rw [own_nc (by have := (pl 2 (by decide)).2; omega)]; exact Hs _ (pl 2 (by decide)).2) One.u
  obtain ⟨b, T6, h6, l6, X6, e6, N6, Z6, ⟨ca, pa, HT6⟩, st6⟩ := tn0_202_232 (.val (.int p1)) (.val (.int p2)) q3 q4 q5 (.val (.int (Int32.ofNat M))) (.val (.int (Int32.ofNat (own_lo M)))) (.val (.int (Int32.ofNat (own_mid M)))) (.val (.int (Int32.ofNat (own_hi M)))) (.val (.int (Int32.ofNat Q))) (.val (.ref b1)) (.val (.ref b2)) (.val (.int (Int32.ofNat (own_p M Q 0)))) (.val (.int (Int32.ofNat (own_p M Q 1)))) (.val (.int (Int32.ofNat (own_p M Q 2)))) X5 hx hZ hw hby hml hown e5 N4 Z4 One.u
  obtain ⟨T7, h7, l7, X7, e7, N7, Z7, HT7, st7⟩ := tn0_232_259 (.val (.int p1)) (.val (.int p2)) (.val (.long q3)) .second (.val (.long q4)) .second (.val (.long q5)) .second (.val (.int (Int32.ofNat M))) (.val (.int (Int32.ofNat (own_lo M)))) (.val (.int (Int32.ofNat (own_mid M)))) (.val (.int (Int32.ofNat (own_hi M)))) (.val (.int (Int32.ofNat Q))) (.val (.ref b1)) (.val (.ref b2)) (own_p M Q 0) (own_p M Q 1) (own_p M Q 2) (own_f1 q3) (own_f1 q4) (own_f1 q5) b ca pa (fun _ => 0) (fun _ => 0) X6 hx hZ hw hby hml hown e6 N6 Z6 HT6.1 HT6 (pl 0 (by decide)).1 (pl 1 (by decide)).1 (pl 2 (by decide)).1
  obtain ⟨d1, d2, d3, d4, d5, d6⟩ := own_dist M hM4 Q hQ6
  obtain ⟨s1, s2, s3⟩ := own_sorted M hM4 Q hQ6
  obtain ⟨T8, h8, l8, X8, e8, N8, Z8, -, st8⟩ := tn0_259_357 (.val (.int p1)) (.val (.int p2)) (.val (.long q3)) .second (.val (.long q4)) .second (.val (.long q5)) .second M (own_lo M) (own_mid M) (own_hi M) (.val (.int (Int32.ofNat Q))) (.val (.ref b1)) (.val (.ref b2)) (own_p M Q 0) (own_p M Q 1) (own_p M Q 2) (own_f1 q3) (own_f1 q4) (own_f1 q5) b ca pa _ _ X7 hx hZ hw hby hml hown e7 N7 Z7 HT7.1 HT7 (pl 0 (by decide)).1 (pl 1 (by decide)).1 (pl 2 (by decide)).1 hM4 s1 s2 s3 (by simp [own_upd, d1, d2]) (by simp [own_upd, d3]) (by simp [own_upd]) (by simp [own_upd, d4.symm, d5.symm, d6.symm])
  obtain ⟨fs, hr, hrun, hended, hW, hsame⟩ := X8.leave (v := some (.int (1 : Int32))) (fun h => by rw [Bd.returns] at h; cases h)
  refine ⟨_, _, pre0 _ ?_, hrun, hended, _, _, rfl, ⟨rfl, N8⟩, ⟨_, rfl⟩, hW, hsame.mono (by decide) (by decide)⟩
  exact st1 _ (st2 _ (st3 _ (st4 _ (st5 _ (st6 _ (st7 _ (st8 _ (retN X8 hx (t := .boolean) Bd.returns (by simp) (hb hby at_357) hr))))))))
set_option maxRecDepth 65536 in
set_option maxHeartbeats 40000000 in
theorem comes_1 {Post : Tables → Env → Array Value → State → Outcome → State → Prop} (hpost : ∀ tb e args s v u, (limb_1_1.after args s (.returned v) u = true ∧ limb_1_2.after args s (.returned v) u = true ∧ True) → FrameEnd s (.returned v) u (Jvm.fieldLocs frame_1_writes args s ++ Jvm.arrayLocs frame_1_arrays args s ++ Jvm.staticLocs frame_1_statics s) 24 128 → Post tb e args s (.returned v) u) :
    ArmFor flags0 classFile x code maxLocals ret World_1 tables_1 room_1 Calls_1 rest_1 Pre_1 Post := by
  intro l hfl _ _ p e ha hc hk s m args below hf hA hF happ hP
  obtain ⟨hcalls, hrest, hpre⟩ := hP
  obtain ⟨-, -, -, hnamed, -, -, -, hat⟩ := (Spec.applies_iff hf).mp happ
  obtain ⟨hg, hn⟩ := and_e (Cond.before_iff.mp (show (Jvm.Cond.and given_1 narrow_1).before args s = true from hpre))
  obtain ⟨g51, g52⟩ := and_e hg
  obtain ⟨g53, g54⟩ := and_e g52
  obtain ⟨g55, g56⟩ := and_e g54
  obtain ⟨g57, g58⟩ := and_e g56
  obtain ⟨g59, g60⟩ := and_e g58
  obtain ⟨w0, w1, w2, w3, w4, rfl⟩ : ∃ w0 w1 w2 w3 w4 : Value, args = #[w0, w1, w2, w3, w4] := by
    have hs : args.size = 5 := by simpa [Cond.value, given_1] using g51
    obtain ⟨L⟩ := args
    match L, hs with
    | [w0, w1, w2, w3, w4], _ => exact ⟨w0, w1, w2, w3, w4, rfl⟩
  have hw := fun d (hd : d ∈ tables_1) => atoms_spec (ws := Jvm.Cond.code x code maxLocals ret :: tables_1) hat d (List.mem_cons_of_mem _ hd)
  have hfit : Fit s := fun {y c} hc i hi => by
    obtain ⟨ha, rfl⟩ := Array.getElem?_eq_some_iff.mp hc
    have q := List.all_eq_true.mp ((Array.all_eq_true_iff_forall_mem.mp hF) _ (Array.getElem_mem ha)) i (List.mem_range.mpr hi)
    simpa [Array.getElem?_eq_getElem hi] using q
  obtain ⟨i0, ei0⟩ := is_v g53
  obtain rfl : w0 = (.int i0) := Option.some.inj ei0
  obtain ⟨i1, ei1⟩ := is_v g55
  obtain rfl : w1 = (.int i1) := Option.some.inj ei1
  obtain ⟨i2, ei2⟩ := isL_v g57
  obtain rfl : w2 = (.long i2) := Option.some.inj ei2
  obtain ⟨i3, ei3⟩ := isL_v g59
  obtain rfl : w3 = (.long i3) := Option.some.inj ei3
  obtain ⟨i4, ei4⟩ := isL_v g60
  obtain rfl : w4 = (.long i4) := Option.some.inj ei4
  have all : MetFree l x (head1 (Jvm.Cond.code x code maxLocals ret :: tables_1) room_1) (fun a U => a = #[(.int i0), (.int i1), (.long i2), (.long i3), (.long i4)] ∧ s.Warmed39 U.vm ∧ U.heap = s.heap) (fun _ _ _ _ _ => True) (fun _ U o U' => ∃ v L, o = .returned v ∧ (v = some (.int 1) ∧ Fr s.heap.size L) ∧ FrameEnd U o U' L room_1.cells room_1.slots) := by
    exact rm0 l s _ hw tables_1 i0 i1 i2 i3 i4 s.heap s.heap.size (Nat.le_refl _)
  obtain ⟨n, o, h1, h2, h3, _, L, rfl, ⟨rfl, N⟩, hq⟩ := all p e ha hc hk s m _ below hf ((Spec.applies_iff_loose hf).mp happ).1 ⟨rfl, State.Warmed39.refl s, rfl⟩ trivial
  refine ⟨n, _, h1, h2, h3, hpost _ _ _ _ _ _ ⟨Cond.after_iff.mpr rfl, Cond.after_iff.mpr (eq_i res_at (Term.int_eval (1)) rfl), trivial⟩ ⟨hq.1, hq.2.1, (hq.2.2.sift fun y hy => Or.inr (N y hy)).mono (by decide) (by decide)⟩⟩
theorem main_1_1 : Claimed_1_1 := comes_1 fun _ _ _ _ _ _ h hF => ⟨h.1, hF⟩
theorem main_1_2 : Claimed_1_2 := comes_1 fun _ _ _ _ _ _ h hF => ⟨h.2.1, hF⟩
end Jvm.Pilot.@@N@@
namespace Jvm.Pilot.@@N@@
open Jvm Jvm.ClassFile Sem Op Lib Jvm.Free Jvm.Stand Jvm.Pilot.@@N@@.Jvm.D
/-! MADE BY PROGRAM (witnessworld.py) out of the Statement's table words and the real class files: 11 classes; the members and pool entries that the words name. The judged class is class 1, her method 2. -/
namespace start1
open Jvm.ClassFile
def u (s : String) : CpInfo := .utf8 (stringToUtf16 s)
/-- a pool by its gaps: so many unusable entries, then the entry; so many at the end -/
def gap : Nat → List CpInfo → List CpInfo
  | 0, r => r
  | n + 1, r => .unusable :: gap n r
def poolList (es : List (Nat × CpInfo)) (last : Nat) : List CpInfo := es.foldr (fun e r => gap e.1 (e.2 :: r)) (gap last [])
def pool (es : List (Nat × CpInfo)) (last : Nat) : Array CpInfo := ⟨poolList es last⟩
def fileOf (pool : Array CpInfo) (this : Nat) (attrs : Array Attribute := #[]) (ms : Array MethodInfo := #[]) (fl : Nat := 33) (sup : Nat := 0) (ifs : Array Nat := #[]) (fds : Array FieldInfo := #[]) : ClassFile where
  minorVersion := 0
  majorVersion := 65
  constantPool := pool
  accessFlags := fl
  thisClass := this
  superClass := sup
  interfaces := ifs
  fields := fds
  methods := ms
  attributes := attrs
def plain (name : String) (sup : Option ClassId) : Class where
  name := name
  kind := .ordinary
  loader := none
  accessFlags := 33
  super := sup
  interfaces := #[]
  cf := none
  fields := #[]
  methods := #[]
  instanceTypes := #[]
  staticTypes := #[]
  resolved := #[]
  callSites := []
  init := .initialized
  statics := none
  mirror := none

def pool0 : Array CpInfo := pool [(5, u "<init>"), (0, u "()V"), (1, .class_ 10), (1, u "java/lang/Object")] 113

def k0c0 : Code := { maxStack := 0, maxLocals := 1, code := object_method_1_code, exceptionTable := #[], attributes := #[] }
def k0m0 : Method := { name := "<init>", desc := "()V", sig := { parameters := [], returnType := none }, accessFlags := 1, code := some k0c0 }
/-- java/lang/Object -/
def k0 : Class := { plain "java/lang/Object" none with
  accessFlags := 33
  interfaces := #[]
  cf := some (fileOf pool0 8 #[] #[{ accessFlags := 1, nameIndex := 5, descriptorIndex := 6, attributes := #[] }] 33 0 #[] #[])
  fields := #[]
  methods := #[k0m0]
  instanceTypes := #[]
  staticTypes := #[]
  resolved := Array.replicate 124 none
  statics := none }

def pool1 : Array CpInfo := pool [(2, .class_ 4), (1, u "java/lang/Object"), (0, u "<init>"), (0, u "()V"), (2, .long 9223372036854775807), (1, .integer 2147483647), (0, .methodref 13 14), (0, .class_ 15), (0, .nameAndType 16 17), (0, u "com/example/upweight/upweight/HeldTermsAddPinLaw"), (0, u "positive"), (0, u "(J)J"), (0, .class_ 19), (0, u "com/example/upweight/upweight/HeldTerms"), (0, .methodref 18 21), (0, .nameAndType 5 22), (0, u "(I)V"), (0, .methodref 18 24), (0, .nameAndType 25 26), (0, u "add"), (0, u "(IJ)V"), (0, .methodref 18 28), (0, .nameAndType 29 30), (0, u "size"), (0, u "()I"), (0, .methodref 18 32), (0, .nameAndType 33 34), (0, u "place"), (0, u "(I)I"), (0, .methodref 18 36), (0, .nameAndType 37 38), (0, u "count"), (0, u "(I)J"), (2, u "law"), (0, u "(IIJJJ)Z")] 5

def k1m0 : Method := { name := "<init>", desc := "()V", sig := { parameters := [], returnType := none }, accessFlags := 1, code := none }
def k1c1 : Code := { maxStack := 4, maxLocals := 2, code := method_2_code, exceptionTable := #[], attributes := #[] }
def k1m1 : Method := { name := "positive", desc := "(J)J", sig := { parameters := [.long], returnType := some .long }, accessFlags := 10, code := some k1c1 }
def k1c2 : Code := { maxStack := 4, maxLocals := 25, code := code, exceptionTable := #[], attributes := #[] }
def k1m2 : Method := { name := "law", desc := "(IIJJJ)Z", sig := { parameters := [.int, .int, .long, .long, .long], returnType := some .boolean }, accessFlags := 9, code := some k1c2 }
/-- com/example/upweight/upweight/HeldTermsAddPinLaw -/
def k1 : Class := { plain "com/example/upweight/upweight/HeldTermsAddPinLaw" (some 0) with
  accessFlags := 49
  interfaces := #[]
  cf := some (fileOf pool1 13 #[] #[{ accessFlags := 1, nameIndex := 5, descriptorIndex := 6, attributes := #[] }, { accessFlags := 10, nameIndex := 16, descriptorIndex := 17, attributes := #[] }, { accessFlags := 9, nameIndex := 41, descriptorIndex := 42, attributes := #[] }] 49 2 #[] #[])
  fields := #[]
  methods := #[k1m0, k1m1, k1m2]
  instanceTypes := #[]
  staticTypes := #[]
  resolved := Array.replicate 48 none
  statics := none }

def pool2 : Array CpInfo := pool [(1, .methodref 2 3), (0, .class_ 4), (0, .nameAndType 5 6), (0, u "java/lang/Object"), (0, u "<init>"), (0, u "()V"), (0, .fieldref 8 9), (0, .class_ 10), (0, .nameAndType 11 12), (0, u "com/example/upweight/upweight/HeldTerms"), (0, u "counts"), (0, u "[J"), (0, .fieldref 8 14), (0, .nameAndType 15 16), (0, u "places"), (0, u "[I"), (0, .fieldref 8 18), (0, .nameAndType 19 20), (0, u "size"), (0, u "I"), (0, u "(I)V"), (2, u "()I"), (0, u "place"), (0, u "(I)I"), (0, u "count"), (0, u "(I)J"), (0, u "add"), (0, u "(IJ)V")] 4

def k2c0 : Code := { maxStack := 2, maxLocals := 2, code := prog_8_method_1_code, exceptionTable := #[], attributes := #[] }
def k2m0 : Method := { name := "<init>", desc := "(I)V", sig := { parameters := [.int], returnType := none }, accessFlags := 0, code := some k2c0 }
def k2c1 : Code := { maxStack := 1, maxLocals := 1, code := prog_8_method_2_code, exceptionTable := #[], attributes := #[] }
def k2m1 : Method := { name := "size", desc := "()I", sig := { parameters := [], returnType := some .int }, accessFlags := 0, code := some k2c1 }
def k2c2 : Code := { maxStack := 2, maxLocals := 2, code := prog_8_method_3_code, exceptionTable := #[], attributes := #[] }
def k2m2 : Method := { name := "place", desc := "(I)I", sig := { parameters := [.int], returnType := some .int }, accessFlags := 0, code := some k2c2 }
def k2c3 : Code := { maxStack := 2, maxLocals := 2, code := prog_8_method_4_code, exceptionTable := #[], attributes := #[] }
def k2m3 : Method := { name := "count", desc := "(I)J", sig := { parameters := [.int], returnType := some .long }, accessFlags := 0, code := some k2c3 }
def k2c4 : Code := { maxStack := 5, maxLocals := 5, code := prog_8_method_5_code, exceptionTable := #[], attributes := #[] }
def k2m4 : Method := { name := "add", desc := "(IJ)V", sig := { parameters := [.int, .long], returnType := none }, accessFlags := 0, code := some k2c4 }
/-- com/example/upweight/upweight/HeldTerms -/
def k2 : Class := { plain "com/example/upweight/upweight/HeldTerms" (some 0) with
  accessFlags := 48
  interfaces := #[]
  cf := some (fileOf pool2 8 #[] #[{ accessFlags := 0, nameIndex := 5, descriptorIndex := 21, attributes := #[] }, { accessFlags := 0, nameIndex := 19, descriptorIndex := 24, attributes := #[] }, { accessFlags := 0, nameIndex := 25, descriptorIndex := 26, attributes := #[] }, { accessFlags := 0, nameIndex := 27, descriptorIndex := 28, attributes := #[] }, { accessFlags := 0, nameIndex := 29, descriptorIndex := 30, attributes := #[] }] 48 2 #[] #[{ accessFlags := 18, nameIndex := 11, descriptorIndex := 12, attributes := #[] }, { accessFlags := 18, nameIndex := 15, descriptorIndex := 16, attributes := #[] }, { accessFlags := 2, nameIndex := 19, descriptorIndex := 20, attributes := #[] }])
  fields := #[{ name := "counts", type := (.array .long), accessFlags := 18, slot := 0, constantValue := 0 }, { name := "places", type := (.array .int), accessFlags := 18, slot := 1, constantValue := 0 }, { name := "size", type := .int, accessFlags := 2, slot := 2, constantValue := 0 }]
  methods := #[k2m0, k2m1, k2m2, k2m3, k2m4]
  instanceTypes := #[(.array .long), (.array .int), .int]
  staticTypes := #[]
  resolved := Array.replicate 35 none
  statics := none }

def pool3 : Array CpInfo := pool [(1, u "java/lang/Cloneable"), (0, .class_ 1), (0, u "java/lang/Object"), (0, .class_ 3)] 3

/-- java/lang/Cloneable -/
def k3 : Class := { plain "java/lang/Cloneable" (some 0) with
  accessFlags := 1537
  interfaces := #[]
  cf := some (fileOf pool3 2 #[] #[] 1537 4 #[] #[])
  fields := #[]
  methods := #[]
  instanceTypes := #[]
  staticTypes := #[]
  resolved := Array.replicate 8 none
  statics := none }

def pool4 : Array CpInfo := pool [(1, u "java/io/Serializable"), (0, .class_ 1), (0, u "java/lang/Object"), (0, .class_ 3)] 3

/-- java/io/Serializable -/
def k4 : Class := { plain "java/io/Serializable" (some 0) with
  accessFlags := 1537
  interfaces := #[]
  cf := some (fileOf pool4 2 #[] #[] 1537 4 #[] #[])
  fields := #[]
  methods := #[]
  instanceTypes := #[]
  staticTypes := #[]
  resolved := Array.replicate 8 none
  statics := none }

/-- the primitive byte -/
def k5 : Class := { plain "byte" none with kind := .primitive 'B', accessFlags := 0x411 }
/-- [B -/
def k6 : Class := { plain "[B" (some 0) with kind := .array 5 .byte, interfaces := #[3, 4], accessFlags := 1041 }

/-- the primitive int -/
def k7 : Class := { plain "int" none with kind := .primitive 'I', accessFlags := 0x411 }
/-- [I -/
def k8 : Class := { plain "[I" (some 0) with kind := .array 7 .int, interfaces := #[3, 4], accessFlags := 1041 }

/-- the primitive long -/
def k9 : Class := { plain "long" none with kind := .primitive 'J', accessFlags := 0x411 }
/-- [J -/
def k10 : Class := { plain "[J" (some 0) with kind := .array 9 .long, interfaces := #[3, 4], accessFlags := 1041 }

def heap : Heap := #[]
def classes : Array Class := #[k0, k1, k2, k3, k4, k5, k6, k7, k8, k9, k10]
def interned : List (Array UInt16 × Addr) := []
def slotsUsed : Nat := 0
def theMethod : MethodId := ⟨1, 2⟩
def args0 : Array Value := #[.int 5, .int 7, .long 3, .long 4, .long 9]
def aboutOver (below : List Frame) : State where
  vm := { classes := classes, interned := interned.toArray }
  heap := heap
  slotsUsed := slotsUsed
  threads := #[{ frames := .invoking theMethod args0 :: below }]
def below0 : List Frame := [.native { method := ⟨0, 0⟩, args := #[] }]
def about1 : State := aboutOver below0
def p0 : Program := .bare "" "" ""
def e0 : Env := launch0.env 0 0 0
theorem w_frames : about1.frames = Frame.invoking theMethod args0 :: below0 := rfl
set_option maxRecDepth 65536 in
theorem w_args : argsFit about1.vm theMethod args0 = true := by decide +kernel
set_option maxRecDepth 65536 in
theorem w_heap : heapFits about1 = true := by decide +kernel
set_option maxRecDepth 65536 in
theorem w_runnable : about1.curStatus? = some .runnable := by decide +kernel
set_option maxRecDepth 65536 in
theorem w_alone : about1.alone = true := by decide +kernel
set_option maxRecDepth 65536 in
theorem w_named : about1.methodNamed? x = some theMethod := by decide +kernel
set_option maxRecDepth 65536 in
theorem w_hears : about1.hears theMethod below0 = true := by decide +kernel
set_option maxRecDepth 65536 in
theorem w_ripe : about1.ripe theMethod args0 below0 = true := by decide +kernel
theorem w_running : about1.status = .running := rfl
set_option maxRecDepth 65536 in
theorem w_room : about1.hasRoom e0.platform room_1 = true :=
  launch0.hasRoom_least _ room_1 (by decide +kernel) (by decide +kernel) (by decide +kernel) (by decide +kernel) (by decide +kernel) (by decide +kernel)
theorem allAtoms_all (ts : List Jvm.Cond) (a : Array Jvm.Value) (st : Jvm.State) : (allAtoms ts).before a st = ts.all (fun c => c.before a st) := by
  induction ts with
  | nil => rfl
  | cons c t ih =>
    show (Jvm.Cond.and c (allAtoms t)).before a st = _
    rw [Jvm.Cond.before_and, ih, List.all_cons]
def words1 : List Jvm.Cond := Jvm.Cond.code x code maxLocals ret :: tables_1
/-- a 'code' word, met by the world's own term for the bytes: nothing is compared byte by byte -/
theorem code_word {y : MethodName} {bytes : ByteArray} {mx : Nat} {rt : Option FieldType} {a : Array Value} {s : State} {m : MethodId} {meth : Method} {c : Code} (h1 : s.methodNamed? y = some m) (h2 : s.vm.method? m = some meth) (h3 : meth.code = some c) (h4 : c.code = bytes)
    (h5 : (c.maxLocals == mx && c.exceptionTable.isEmpty && decide (c.maxStack ≤ mostOperands) && decide (meth.sig.returnType = rt) && !meth.locks && decide (parseMethodDescriptor y.desc = some meth.sig)) = true) : (Jvm.Cond.code y bytes mx rt).before a s = true := by
  simp only [Bool.and_eq_true, beq_iff_eq, Bool.not_eq_true', decide_eq_true_eq] at h5
  obtain ⟨⟨⟨⟨⟨g1, g2⟩, g3⟩, g4⟩, g5⟩, g6⟩ := h5
  simp [Cond.before, Cond.holds, Cond.value, h1, h2, h3, h4, g1, g2, g3, g4, g5, g6]
def isCode : Jvm.Cond → Bool
  | .code _ _ _ _ => true
  | _ => false
theorem all_split {L : List Jvm.Cond} {P : Jvm.Cond → Bool} (h1 : L.all (fun c => isCode c || P c) = true) (h2 : ∀ c ∈ L.filter isCode, P c = true) : L.all P = true := by
  refine List.all_eq_true.mpr fun c hc => ?_
  have h := List.all_eq_true.mp h1 c hc
  rcases Bool.eq_false_or_eq_true (isCode c) with hi | hi
  · exact h2 c (List.mem_filter.mpr ⟨hc, hi⟩)
  · simpa [hi] using h
set_option maxRecDepth 65536 in
theorem w_c0 : (Jvm.Cond.code x code maxLocals ret).before args0 about1 = true := code_word (m := ⟨1, 2⟩) (meth := k1m2) (c := k1c2) (by decide +kernel) rfl rfl rfl (by decide +kernel)
set_option maxRecDepth 65536 in
theorem w_c1 : (Jvm.Cond.code ({ cls := "com/example/upweight/upweight/HeldTermsAddPinLaw", name := "positive", desc := "(J)J" } : Jvm.MethodName) method_2_code (2 : Nat) (Option.some Jvm.ClassFile.FieldType.long)).before args0 about1 = true := code_word (m := ⟨1, 1⟩) (meth := k1m1) (c := k1c1) (by decide +kernel) rfl rfl rfl (by decide +kernel)
set_option maxRecDepth 65536 in
theorem w_c2 : (Jvm.Cond.code ({ cls := "com/example/upweight/upweight/HeldTerms", name := "<init>", desc := "(I)V" } : Jvm.MethodName) prog_8_method_1_code (2 : Nat) (Option.none : Option Jvm.ClassFile.FieldType)).before args0 about1 = true := code_word (m := ⟨2, 0⟩) (meth := k2m0) (c := k2c0) (by decide +kernel) rfl rfl rfl (by decide +kernel)
set_option maxRecDepth 65536 in
theorem w_c3 : (Jvm.Cond.code ({ cls := "java/lang/Object", name := "<init>", desc := "()V" } : Jvm.MethodName) object_method_1_code (1 : Nat) (Option.none : Option Jvm.ClassFile.FieldType)).before args0 about1 = true := code_word (m := ⟨0, 0⟩) (meth := k0m0) (c := k0c0) (by decide +kernel) rfl rfl rfl (by decide +kernel)
set_option maxRecDepth 65536 in
theorem w_c4 : (Jvm.Cond.code ({ cls := "com/example/upweight/upweight/HeldTerms", name := "add", desc := "(IJ)V" } : Jvm.MethodName) prog_8_method_5_code (5 : Nat) (Option.none : Option Jvm.ClassFile.FieldType)).before args0 about1 = true := code_word (m := ⟨2, 4⟩) (meth := k2m4) (c := k2c4) (by decide +kernel) rfl rfl rfl (by decide +kernel)
set_option maxRecDepth 65536 in
theorem w_c5 : (Jvm.Cond.code ({ cls := "com/example/upweight/upweight/HeldTerms", name := "size", desc := "()I" } : Jvm.MethodName) prog_8_method_2_code (1 : Nat) (Option.some Jvm.ClassFile.FieldType.int)).before args0 about1 = true := code_word (m := ⟨2, 1⟩) (meth := k2m1) (c := k2c1) (by decide +kernel) rfl rfl rfl (by decide +kernel)
set_option maxRecDepth 65536 in
theorem w_c6 : (Jvm.Cond.code ({ cls := "com/example/upweight/upweight/HeldTerms", name := "place", desc := "(I)I" } : Jvm.MethodName) prog_8_method_3_code (2 : Nat) (Option.some Jvm.ClassFile.FieldType.int)).before args0 about1 = true := code_word (m := ⟨2, 2⟩) (meth := k2m2) (c := k2c2) (by decide +kernel) rfl rfl rfl (by decide +kernel)
set_option maxRecDepth 65536 in
theorem w_c7 : (Jvm.Cond.code ({ cls := "com/example/upweight/upweight/HeldTerms", name := "count", desc := "(I)J" } : Jvm.MethodName) prog_8_method_4_code (2 : Nat) (Option.some Jvm.ClassFile.FieldType.long)).before args0 about1 = true := code_word (m := ⟨2, 3⟩) (meth := k2m3) (c := k2c3) (by decide +kernel) rfl rfl rfl (by decide +kernel)
def codes1 : List Jvm.Cond := [Jvm.Cond.code x code maxLocals ret, Jvm.Cond.code ({ cls := "com/example/upweight/upweight/HeldTermsAddPinLaw", name := "positive", desc := "(J)J" } : Jvm.MethodName) method_2_code (2 : Nat) (Option.some Jvm.ClassFile.FieldType.long), Jvm.Cond.code ({ cls := "com/example/upweight/upweight/HeldTerms", name := "<init>", desc := "(I)V" } : Jvm.MethodName) prog_8_method_1_code (2 : Nat) (Option.none : Option Jvm.ClassFile.FieldType), Jvm.Cond.code ({ cls := "java/lang/Object", name := "<init>", desc := "()V" } : Jvm.MethodName) object_method_1_code (1 : Nat) (Option.none : Option Jvm.ClassFile.FieldType), Jvm.Cond.code ({ cls := "com/example/upweight/upweight/HeldTerms", name := "add", desc := "(IJ)V" } : Jvm.MethodName) prog_8_method_5_code (5 : Nat) (Option.none : Option Jvm.ClassFile.FieldType), Jvm.Cond.code ({ cls := "com/example/upweight/upweight/HeldTerms", name := "size", desc := "()I" } : Jvm.MethodName) prog_8_method_2_code (1 : Nat) (Option.some Jvm.ClassFile.FieldType.int), Jvm.Cond.code ({ cls := "com/example/upweight/upweight/HeldTerms", name := "place", desc := "(I)I" } : Jvm.MethodName) prog_8_method_3_code (2 : Nat) (Option.some Jvm.ClassFile.FieldType.int), Jvm.Cond.code ({ cls := "com/example/upweight/upweight/HeldTerms", name := "count", desc := "(I)J" } : Jvm.MethodName) prog_8_method_4_code (2 : Nat) (Option.some Jvm.ClassFile.FieldType.long)]
set_option maxRecDepth 65536 in
theorem codes_eq : words1.filter isCode = codes1 := rfl
theorem w_codes : ∀ c ∈ words1.filter isCode, c.before args0 about1 = true := by
  rw [codes_eq]
  intro c hc
  simp only [codes1, List.mem_cons, List.not_mem_nil, or_false] at hc
  rcases hc with rfl | rfl | rfl | rfl | rfl | rfl | rfl | rfl
  · exact w_c0
  · exact w_c1
  · exact w_c2
  · exact w_c3
  · exact w_c4
  · exact w_c5
  · exact w_c6
  · exact w_c7
set_option maxRecDepth 65536 in
theorem w_t1 : (words1.take 24).all (fun c => isCode c || c.before args0 about1) = true := by decide +kernel
set_option maxRecDepth 65536 in
theorem w_t2 : (words1.drop 24).all (fun c => isCode c || c.before args0 about1) = true := by decide +kernel
theorem w_tables : (allAtoms (Jvm.Cond.code x code maxLocals ret :: tables_1)).before args0 about1 = true := by
  rw [allAtoms_all]
  show words1.all (fun c => c.before args0 about1) = true
  refine all_split ?_ w_codes
  rw [← List.take_append_drop 24 words1, List.all_append, w_t1, w_t2]
  rfl
set_option maxRecDepth 65536 in
theorem w_case : (Jvm.Cond.and given_1 narrow_1).before args0 about1 = true := by decide +kernel
theorem w_applies : (headSpec (Jvm.Cond.code x code maxLocals ret :: tables_1) room_1).applies x e0.platform about1 = true :=
  (Spec.applies_iff w_frames).mpr ⟨w_running, w_runnable, w_alone, w_named, w_hears, w_ripe, w_room, w_tables⟩
theorem atStart : AtStart classFile x code maxLocals ret World_1 tables_1 room_1 Calls_1 rest_1 Pre_1 launch0 p0 e0 about1 theMethod args0 below0 :=
  ⟨lists_1, trivial, launch0.admits_env _ _ _, launch0.least_env, fairChoices_fair.cas, fairChoices_fair.clock, w_frames, w_args, w_heap, w_applies, trivial, trivial, w_case⟩
end start1
theorem witness_1 : WitnessClaimed_1 := ⟨start1.p0, start1.e0, start1.about1, start1.theMethod, start1.args0, start1.below0, start1.atStart⟩
end Jvm.Pilot.@@N@@
