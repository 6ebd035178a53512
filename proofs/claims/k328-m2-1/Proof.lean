import JvmDerived
import JvmDerived.Pilot.@@N@@Statement
import JvmDerived.Pilot.@@N@@Code
set_option linter.unusedVariables false
set_option linter.unusedSimpArgs false
namespace Jvm.RoadKit
open Sem ClassFile Op Lib Jvm.Stand Jvm.Free Jvm.LawKit
section New
variable {p : Program} {l : Launch} {e : Env} {R : Room} {s : State} {m : MethodId} {args : Array Value} {below : List Frame} {meth : Method} {c : Code} {T : State} {locs : List Loc} {cells slots : Nat}
theorem retI (X : Stand p l e R s m args below meth c T locs cells slots) (hx : p.tables.exec = Jvm.exec) {pc : Nat} {Ls : Array Slot} {z : Int32} {rest : List Value} (hret : meth.sig.returnType = some .int) (hd : decode c.code pc = .ok (.ireturn, 1)) {fs : List Frame}
    (hl : ∀ (f : JFrame) (acts : List Action), f.method = m → f.locked = none → f.entered = [] → (doReturn e (T.setTop f) acts (some (.int z))).1 = T.setFrames fs) : Steps p.tables e below (T.setTop (mkF m pc Ls (.int z :: rest))) (T.setFrames fs) := by
  have hm' : T.vm.method? m = some meth := X.method'
  have hn : narrow .int (.int z) = .int z := rfl
  show Steps p.tables e below (T.setTop { method := m, pc := pc, locals := Ls, stack := _ :: rest, locked := none }) _
  jvm_step X.here [X.here.top, hx, hd, hm', hret, hn]
  first | (intro acts; rw [hl _ acts rfl rfl rfl]) | rw [hl _ _ rfl rfl rfl]
  exact Steps.refl _
end New
end Jvm.RoadKit
namespace Jvm.Pilot.@@N@@
open Jvm Jvm.ClassFile Sem Op Lib Jvm.Free Jvm.Stand Jvm.LawKit Jvm.RoadKit Bundle Jvm.Pilot.@@N@@.Jvm.D
theorem own_retL {p : Program} {l : Launch} {e : Env} {R : Room} {s : State} {m : MethodId} {args : Array Value} {below : List Frame} {meth : Method} {c : Code} {T : State} {locs : List Loc} {cells slots : Nat} (X : Stand p l e R s m args below meth c T locs cells slots) (hx : p.tables.exec = Jvm.exec) {pc : Nat} {Ls : Array Slot} {z : Int64} {rest : List Value} (hret : meth.sig.returnType = some .long) (hd : decode c.code pc = .ok (.lreturn, 1)) {fs : List Frame} (hl : ∀ (f : JFrame) (acts : List Action), f.method = m → f.locked = none → f.entered = [] → (doReturn e (T.setTop f) acts (some (.long z))).1 = T.setFrames fs) : Steps p.tables e below (T.setTop (mkF m pc Ls (.long z :: rest))) (T.setFrames fs) := by
  have hm' : T.vm.method? m = some meth := X.method'
  show Steps p.tables e below (T.setTop { method := m, pc := pc, locals := Ls, stack := _ :: rest, locked := none }) _
  jvm_step X.here [X.here.top, hx, hd, hm', hret, narrow]
  first | (intro acts; rw [hl _ acts rfl rfl rfl]) | rw [hl _ _ rfl rfl rfl]
  exact Steps.refl _
def own_Qr (h0 : Heap) (n0 : Nat) (r : Value) (v : Option Value) (h : Heap) (L : List Loc) : Prop := v = some r ∧ Fr n0 L ∧ h = h0

theorem own_ti {k : Nat} (h : k < 2147483648) : (Int32.ofNat k).toInt = k := len_toInt (by omega)
theorem own_nc {k : Nat} (h : k < 2147483648) : (Int32.ofNat k).toNatClampNeg = k := by
  simp only [Int32.toNatClampNeg, own_ti h]; omega
theorem own_ltn {i n : Nat} (hi : i < 2147483648) (hn : n < 2147483648) : Int32.ofNat i < Int32.ofNat n ↔ i < n := by
  rw [Int32.lt_iff_toInt_lt, own_ti hi, own_ti hn]; omega
theorem own_nneg {k : Nat} (h : k < 2147483648) : ¬ Int32.ofNat k < 0 := by
  have h0 : (0 : Int32).toInt = 0 := by decide
  rw [Int32.lt_iff_toInt_lt, own_ti h, h0]; omega
theorem own_add1 (k : Nat) : Int32.ofNat k + (1 : Int32) = Int32.ofNat (k + 1) := (Int32.ofNat_add k 1).symm
theorem own_sub1 (k : Nat) : Int32.ofNat (k + 1) - (1 : Int32) = Int32.ofNat k := by
  rw [← own_add1]; exact Int32.add_sub_cancel _ _
theorem own_dec1 (k : Nat) : Int32.ofNat (k + 1) + (-1 : Int32) = Int32.ofNat k := by
  rw [← own_sub1 k, Int32.sub_eq_add_neg]
theorem own_inb {k N : Nat} {cl : Cell} (S : cl.slots.size = N) (h : k < N) (hN : N < 2147483648) : ¬ (Int32.ofNat k < 0 ∨ cl.slots.size ≤ (Int32.ofNat k).toNatClampNeg) := by
  rw [S, own_nc (by omega)]
  rintro (q | q)
  · exact own_nneg (by omega) q
  · omega

def own_AF (Z : State) (h : Heap) (a : Addr) (ty : FieldType) (N : Nat) (f : Nat → Value) : Prop := N < 2147483648 ∧ ∃ cl : Cell, Arr Z h a cl ty ∧ cl.slots.size = N ∧ (∀ j, j < N → cl.slots[j]? = some (f j)) ∧ ∀ j, j < N → fits ty (f j) = true
theorem own_AF.lt {Z : State} {h : Heap} {a : Addr} {ty : FieldType} {N : Nat} {f : Nat → Value} (F : own_AF Z h a ty N f) : a < h.size := by obtain ⟨-, c, A, -⟩ := F; exact A.lt
theorem own_AF.ext {Z : State} {h h' : Heap} {a : Addr} {ty : FieldType} {N : Nat} {f : Nat → Value} (F : own_AF Z h a ty N f) (E : Ext h h') : own_AF Z h' a ty N f := by obtain ⟨q, c, A, r⟩ := F; exact ⟨q, c, A.ext E, r⟩
theorem own_AF.other {Z : State} {h h' : Heap} {a b : Addr} {sl : Nat} {v : Value} {ty : FieldType} {N : Nat} {f : Nat → Value} (F : own_AF Z h b ty N f) (W : Wr h h' a sl v) (q : b ≠ a) : own_AF Z h' b ty N f := by obtain ⟨k, c, A, r⟩ := F; exact ⟨k, c, A.other W q, r⟩
theorem own_AF.keep {Z : State} {h h' : Heap} {a : Addr} {ws : List Addr} {ty : FieldType} {N : Nat} {f : Nat → Value} (F : own_AF Z h a ty N f) (K : Keep h h' ws) (q : a ∉ ws) : own_AF Z h' a ty N f := by obtain ⟨k, c, A, r⟩ := F; exact ⟨k, c, ⟨K.2.1 a c A.1 q, A.2⟩, r⟩
def own_upd {α : Type} (f : Nat → α) (j : Nat) (v : α) : Nat → α := fun k => if k = j then v else f k
theorem own_AF.set {Z : State} {h h' : Heap} {a : Addr} {j : Nat} {v : Value} {ty : FieldType} {N : Nat} {f : Nat → Value} (F : own_AF Z h a ty N f) (W : Wr h h' a j v) (hj : j < N) (hv : fits ty v = true) : own_AF Z h' a ty N (own_upd f j v) := by
  obtain ⟨k, c, A, S, H, G⟩ := F
  refine ⟨k, _, A.same W, by rw [sz_set]; exact S, fun i hi => ?_, fun i hi => ?_⟩
  · show (c.slots.setIfInBounds j v)[i]? = some (if i = j then v else f i)
    by_cases q : i = j
    · subst q
      rw [if_pos rfl, Array.getElem?_setIfInBounds_self_of_lt (by rw [S]; exact hj)]
    · rw [if_neg q, Array.getElem?_setIfInBounds_ne (fun z => q z.symm)]; exact H i hi
  · show fits ty (if i = j then v else f i) = true
    by_cases q : i = j
    · rw [if_pos q]; exact hv
    · rw [if_neg q]; exact G i hi
theorem own_AF.of {Z : State} {h : Heap} {a : Addr} {k : ClassId} {ty : FieldType} {z : Int32} {vs : List Value} {dv : Value} (V : Arv Z h a k ty z vs dv) (N : Nat) (hN : z.toNatClampNeg = N) (f : Nat → Value) (hf : ∀ j, j < N → vs.getD j dv = f j) : own_AF Z h a ty N f := by
  obtain ⟨c, A, -, S, M, H, G⟩ := V
  have hS : c.slots.size = N := S.trans hN
  refine ⟨by rw [← hN]; exact (back32 M).2, c, A, hS, fun j hj => ?_, fun j hj => ?_⟩
  · rw [← hf j hj]; exact H j (by rw [hS]; exact hj)
  · rw [← hf j hj]; exact G j (by rw [hS]; exact hj)
theorem own_AF.arv {Z : State} {h : Heap} {a : Addr} {ty : FieldType} {N : Nat} {f : Nat → Value} (F : own_AF Z h a ty N f) (dv : Value) : ∃ k, Arv Z h a k ty (Int32.ofNat N) ((List.range N).map f) dv := by
  obtain ⟨q, c, A, S, H, G⟩ := F
  have e : ∀ j, j < N → ((List.range N).map f).getD j dv = f j := fun j hj => by simp [List.getD_eq_getElem?_getD, hj]
  refine ⟨c.cls, c, A, rfl, by rw [own_nc q]; exact S, own_nneg q, fun j hj => ?_, fun j hj => ?_⟩
  · rw [S] at hj; rw [e j hj]; exact H j hj
  · rw [S] at hj; rw [e j hj]; exact G j hj
theorem own_AF.congr {Z : State} {h : Heap} {a : Addr} {ty : FieldType} {N : Nat} {f g : Nat → Value} (F : own_AF Z h a ty N f) (e : ∀ j, j < N → f j = g j) : own_AF Z h a ty N g := by
  obtain ⟨q, c, A, S, H, G⟩ := F
  exact ⟨q, c, A, S, fun j hj => by rw [← e j hj]; exact H j hj, fun j hj => by rw [← e j hj]; exact G j hj⟩

def own_HT (Z : State) (n0 : Nat) (h : Heap) (a ca pa : Addr) (n : Nat) (f : Nat → Nat) (g : Nat → Int64) : Prop :=
  Exa Z h a "com/example/upweight/upweight/HeldTerms" ∧ Fld Z h a "com/example/upweight/upweight/HeldTerms" "counts" "[J" (.ref ca) ∧ Fld Z h a "com/example/upweight/upweight/HeldTerms" "places" "[I" (.ref pa) ∧ Fld Z h a "com/example/upweight/upweight/HeldTerms" "size" "I" (.int (Int32.ofNat n)) ∧ own_AF Z h pa .int 4 (fun j => .int (Int32.ofNat (f j))) ∧ own_AF Z h ca .long 4 (fun j => .long (g j)) ∧ (∀ j, f j < 4) ∧ a ≠ pa ∧ a ≠ ca ∧ pa ≠ ca ∧ n0 ≤ a ∧ n0 ≤ pa ∧ n0 ≤ ca
def own_sh (p : Nat) : Nat → (Nat → Nat) → Nat × (Nat → Nat)
  | 0, f => (0, f)
  | k + 1, f => if p < f k then own_sh p k (own_upd f (k + 1) (f k)) else (k + 1, f)
def own_ins (p n : Nat) (f : Nat → Nat) : Nat → Nat := own_upd (own_sh p n f).2 (own_sh p n f).1 p
theorem own_sh_le (p : Nat) : ∀ (k : Nat) (f : Nat → Nat), (own_sh p k f).1 ≤ k
  | 0, f => Nat.le_refl _
  | k + 1, f => by
    simp only [own_sh]
    split
    · exact Nat.le_succ_of_le (own_sh_le p k _)
    · exact Nat.le_refl _
theorem own_updlt {f : Nat → Nat} {B : Nat} (h : ∀ j, f j < B) (k v : Nat) (hv : v < B) : ∀ j, own_upd f k v j < B := fun j => by
  unfold own_upd; split
  · exact hv
  · exact h j
theorem own_sh_lt (p B : Nat) : ∀ (k : Nat) (f : Nat → Nat), (∀ j, f j < B) → ∀ j, (own_sh p k f).2 j < B
  | 0, f, h => h
  | k + 1, f, h => by
    simp only [own_sh]
    split
    · exact own_sh_lt p B k _ (own_updlt h _ _ (h k))
    · exact h
theorem own_pf {Z : State} {h h' : Heap} {a : Addr} {k v : Nat} {f : Nat → Nat} (F : own_AF Z h a .int 4 (fun j => .int (Int32.ofNat (f j)))) (W : Wr h h' a k (.int (Int32.ofNat v))) (hk : k < 4) : own_AF Z h' a .int 4 (fun j => .int (Int32.ofNat (own_upd f k v j))) :=
  (F.set W hk rfl).congr fun j _ => by unfold own_upd; split <;> rfl
theorem own_cf {Z : State} {h h' : Heap} {a : Addr} {k : Nat} {v : Int64} {g : Nat → Int64} (F : own_AF Z h a .long 4 (fun j => .long (g j))) (W : Wr h h' a k (.long v)) (hk : k < 4) : own_AF Z h' a .long 4 (fun j => .long (own_upd g k v j)) :=
  (F.set W hk rfl).congr fun j _ => by unfold own_upd; split <;> rfl
theorem d2_0 : decode prog_8_method_1_code 0 = .ok (.aload_n 0, 1) := by decide +kernel
theorem d2_1 : decode prog_8_method_1_code 1 = .ok (.invokespecial 1, 3) := by decide +kernel
theorem d2_4 : decode prog_8_method_1_code 4 = .ok (.aload_n 0, 1) := by decide +kernel
theorem d2_5 : decode prog_8_method_1_code 5 = .ok (.iload_n 1, 1) := by decide +kernel
theorem d2_6 : decode prog_8_method_1_code 6 = .ok (.newarray .long, 2) := by decide +kernel
theorem d2_8 : decode prog_8_method_1_code 8 = .ok (.putfield 7, 3) := by decide +kernel
theorem d2_11 : decode prog_8_method_1_code 11 = .ok (.aload_n 0, 1) := by decide +kernel
theorem d2_12 : decode prog_8_method_1_code 12 = .ok (.iload_n 1, 1) := by decide +kernel
theorem d2_13 : decode prog_8_method_1_code 13 = .ok (.newarray .int, 2) := by decide +kernel
theorem d2_15 : decode prog_8_method_1_code 15 = .ok (.putfield 13, 3) := by decide +kernel
theorem d2_18 : decode prog_8_method_1_code 18 = .ok (.return_, 1) := by decide +kernel
theorem pn_2 : plainName "com/example/upweight/upweight/HeldTerms" = true := by first | (simp [plainName, overriddenIn]; done) | decide +kernel
theorem ef_2 (m : MethodId) (x0 : Addr) (x1 : Int32) : entryFrame m #[(.ref x0), (.int x1)] 2 = mkF m 0 #[.val (.ref x0), .val (.int x1)] [] := by first | (simp [entryFrame, mkF, argsToLocals, Value.category]; done) | rfl
def Q2 (Z : State) (a1 : Addr) (p2 : Int32) (u_counts_a1 : Value) (u_places_a1 : Value) (h0 : Heap) (n0 : Nat) (v : Option Value) (h : Heap) (L : List Loc) : Prop := v = none ∧ Fr n0 L ∧ Keep h0 h [a1] ∧ ∃ ca pa, own_HT Z n0 h a1 ca pa 0 (fun _ => 0) (fun _ => 0)
set_option maxRecDepth 65536 in
set_option maxHeartbeats 40000000 in
theorem rm2 (l : Launch) (Z : State) (a0 : Array Value) (hw : ∀ d ∈ tables_1, d.before a0 Z = true) (ws : List Jvm.Cond) (a1 : Addr) (p2 : Int32) (u_counts_a1 : Value) (u_places_a1 : Value) (h0 : Heap) (n0 : Nat) (Z0 : n0 ≤ h0.size) (hp2 : p2 = 4) (F_size_a1 : Fld Z h0 a1 "com/example/upweight/upweight/HeldTerms" "size" "I" (.int 0)) (E_a1 : Exa Z h0 a1 "com/example/upweight/upweight/HeldTerms") (F_counts_a1 : Fld Z h0 a1 "com/example/upweight/upweight/HeldTerms" "counts" "[J" u_counts_a1) (g_a1 : n0 ≤ a1) (F_places_a1 : Fld Z h0 a1 "com/example/upweight/upweight/HeldTerms" "places" "[I" u_places_a1) :
    MetFree l (⟨"com/example/upweight/upweight/HeldTerms", "<init>", "(I)V"⟩ : MethodName) (head1 (Jvm.Cond.code (⟨"com/example/upweight/upweight/HeldTerms", "<init>", "(I)V"⟩ : MethodName) prog_8_method_1_code 2 none :: ws) ({ frames := 1, cells := 2, slots := 8, locals := 12 } : Room)) (fun a U => a = #[(.ref a1), (.int p2)] ∧ Z.Warmed39 U.vm ∧ U.heap = h0) (fun _ _ _ _ _ => True) (fun _ U o U' => ∃ v L, o = .returned v ∧ Q2 Z a1 p2 u_counts_a1 u_places_a1 h0 n0 v U'.heap L ∧ FrameEnd U o U' L ({ frames := 1, cells := 2, slots := 8, locals := 12 } : Room).cells ({ frames := 1, cells := 2, slots := 8, locals := 12 } : Room).slots) := by
  refine MetFree.of_bodySF (plainFor_of_name pn_2) hisR ?_
  intro p e s m args below meth c s₁ Bd hml0 hP hK
  obtain ⟨rfl, hZ, hh⟩ := hP
  have hx := Bd.exec
  have hby := Bd.bytes
  have hml : c.maxLocals = 2 := hml0
  have hown : s.vm.findClass "com/example/upweight/upweight/HeldTerms" = some m.cls := findClass_of_methodNamed Bd.named
  have hnm := (name_of_methodNamed Bd.named Bd.method).1
  have X0 : Stand p l e ({ frames := 1, cells := 2, slots := 8, locals := 12 } : Room) s m #[(.ref a1), (.int p2)] below meth c s₁ [] 0 0 := Stand.of_body Bd
  have e0 : s₁.heap = h0 := by rw [← hh, Bd.state]; rfl
  have N0 := Fr.nil n0
  have pre0 : ∀ t, Steps p.tables e below (s₁.setTop (mkF m 0 #[.val (.ref a1), .val (.int p2)] [])) t → Steps p.tables e below (s₁.setTop (entryFrame m #[(.ref a1), (.int p2)] 2)) t := fun t k => castTop (ef_2 m a1 p2) k
  obtain ⟨T3, X3, e3, st3⟩ := initO X0 hx hZ hown (hw _ (List.mem_of_getElem? (i := 11) rfl)) (hw _ (List.mem_of_getElem? (i := 12) rfl)) (hw _ (List.mem_of_getElem? (i := 13) rfl)) e0 (g := (mkF m 1 #[.val (.ref a1), .val (.int p2)] [(.ref a1)])) rfl (by rw [hml]; rfl) rfl (hb hby d2_1) (by decide) (W := 0) (by show 2 * 0 + _ ≤ _; exact Nat.le_of_eq rfl) (by decide)
  obtain ⟨T4, h4, k4, X4, e4, E4, A4, st4⟩ := newP X3 hx hZ (hw _ (List.mem_of_getElem? (i := 14) rfl)) e3 (g := (mkF m 6 #[.val (.ref a1), .val (.int p2)] [(.int p2), (.ref a1)])) rfl (hb hby d2_6) rfl (by rw [hp2]; decide) (cap := 4) (by rw [hp2]; decide) (by decide) (by decide) (by decide)
  obtain ⟨b4, g4⟩ : ∃ z, z = h0.size := ⟨_, rfl⟩
  rw [← g4] at A4 st4
  have V_b4 := Arv.new A4 (by rw [hp2]; decide)
  have g_b4 : n0 ≤ b4 := Nat.le_trans Z0 (Nat.le_of_eq g4.symm)
  have sz_b4 : h0.size ≤ b4 := (Nat.le_trans (Keep.refl h0 [a1]).1 (Nat.le_of_eq g4.symm))
  have K4 : Keep h0 h4 [a1] := (Keep.refl h0 [a1]).ext E4
  obtain ⟨T5, h5, X5, e5, W5, st5⟩ := putF X4 hx hZ hown (host := "") (Or.inl (hw _ (List.mem_of_getElem? (i := 15) rfl))) Via.refl e4 (F_counts_a1.ext E4) (E_a1.ext E4) (Or.inr ⟨(hw _ (List.mem_of_getElem? (i := 16) rfl)), rfl, hnm⟩) (hw _ (List.mem_of_getElem? (i := 6) rfl)) (ty := (.array .long)) (by decide) rfl rfl (g := (mkF m 8 #[.val (.ref a1), .val (.int p2)] [(.ref b4), (.ref a1)])) rfl rfl (hb hby d2_8)
  have Fw5 := (F_counts_a1.ext E4).same W5
  have K5 : Keep h0 h5 [a1] := K4.wr W5 (Or.inl (List.mem_of_getElem? (i := 0) rfl))
  have N5 := Fr.snoc X5 N0 g_a1
  obtain ⟨T6, h6, k6, X6, e6, E6, A6, st6⟩ := newP X5 hx hZ (hw _ (List.mem_of_getElem? (i := 17) rfl)) e5 (g := (mkF m 13 #[.val (.ref a1), .val (.int p2)] [(.int p2), (.ref a1)])) rfl (hb hby d2_13) rfl (by rw [hp2]; decide) (cap := 4) (by rw [hp2]; decide) (by decide) (by decide) (by decide)
  obtain ⟨b6, g6⟩ : ∃ z, z = h5.size := ⟨_, rfl⟩
  rw [← g6] at A6 st6
  have V_b6 := Arv.new A6 (by rw [hp2]; decide)
  have g_b6 : n0 ≤ b6 := Nat.le_trans (Nat.le_trans (Nat.le_trans Z0 E4.1) (Keep.of_wr W5).1) (Nat.le_of_eq g6.symm)
  have sz_b6 : h0.size ≤ b6 := (Nat.le_trans K5.1 (Nat.le_of_eq g6.symm))
  have K6 : Keep h0 h6 [a1] := K5.ext E6
  obtain ⟨T7, h7, X7, e7, W7, st7⟩ := putF X6 hx hZ hown (host := "") (Or.inl (hw _ (List.mem_of_getElem? (i := 18) rfl))) Via.refl e6 (((F_places_a1.ext E4).other W5 (Or.inr (slot_ne (Or.inr (hw _ (List.mem_of_getElem? (i := 19) rfl))) (Or.inr (hw _ (List.mem_of_getElem? (i := 16) rfl))) (by decide) (t := (.array .int)) (t' := (.array .long)) (by decide) (by decide)))).ext E6) (((E_a1.ext E4).wr W5).ext E6) (Or.inr ⟨(hw _ (List.mem_of_getElem? (i := 19) rfl)), rfl, hnm⟩) (hw _ (List.mem_of_getElem? (i := 6) rfl)) (ty := (.array .int)) (by decide) rfl rfl (g := (mkF m 15 #[.val (.ref a1), .val (.int p2)] [(.ref b6), (.ref a1)])) rfl rfl (hb hby d2_15)
  have Fw7 := (((F_places_a1.ext E4).other W5 (Or.inr (slot_ne (Or.inr (hw _ (List.mem_of_getElem? (i := 19) rfl))) (Or.inr (hw _ (List.mem_of_getElem? (i := 16) rfl))) (by decide) (t := (.array .int)) (t' := (.array .long)) (by decide) (by decide)))).ext E6).same W7
  have K7 : Keep h0 h7 [a1] := K6.wr W7 (Or.inl (List.mem_of_getElem? (i := 0) rfl))
  have N7 := Fr.snoc X7 N5 g_a1
  obtain ⟨fs, hr, hrun, hended, hW, hsame⟩ := X7.leave (v := none) (fun _ => rfl)
  refine ⟨_, _, pre0 _ ?_, hrun, hended, _, _, rfl, ?_, ⟨_, rfl⟩, hW, hsame.mono (by decide) (by decide)⟩
  · show Steps p.tables e below (s₁.setTop (mkF m 0 #[.val (.ref a1), .val (.int p2)] [])) _
    refine XS.aloadN X0.here hx rfl (hb hby d2_0) rfl rfl ?_
    show Steps p.tables e below (s₁.setTop (mkF m 1 #[.val (.ref a1), .val (.int p2)] [(.ref a1)])) _
    refine st3 _ ?_
    show Steps p.tables e below (T3.setTop (mkF m 4 #[.val (.ref a1), .val (.int p2)] [])) _
    refine XS.aloadN X3.here hx rfl (hb hby d2_4) rfl rfl ?_
    show Steps p.tables e below (T3.setTop (mkF m 5 #[.val (.ref a1), .val (.int p2)] [(.ref a1)])) _
    refine XS.iloadN X3.here hx rfl (hb hby d2_5) rfl ?_
    show Steps p.tables e below (T3.setTop (mkF m 6 #[.val (.ref a1), .val (.int p2)] [(.int p2), (.ref a1)])) _
    refine st4 _ ?_
    show Steps p.tables e below (T4.setTop (mkF m 8 #[.val (.ref a1), .val (.int p2)] [(.ref b4), (.ref a1)])) _
    refine st5 _ ?_
    show Steps p.tables e below (T5.setTop (mkF m 11 #[.val (.ref a1), .val (.int p2)] [])) _
    refine XS.aloadN X5.here hx rfl (hb hby d2_11) rfl rfl ?_
    show Steps p.tables e below (T5.setTop (mkF m 12 #[.val (.ref a1), .val (.int p2)] [(.ref a1)])) _
    refine XS.iloadN X5.here hx rfl (hb hby d2_12) rfl ?_
    show Steps p.tables e below (T5.setTop (mkF m 13 #[.val (.ref a1), .val (.int p2)] [(.int p2), (.ref a1)])) _
    refine st6 _ ?_
    show Steps p.tables e below (T6.setTop (mkF m 15 #[.val (.ref a1), .val (.int p2)] [(.ref b6), (.ref a1)])) _
    refine st7 _ ?_
    show Steps p.tables e below (T7.setTop (mkF m 18 #[.val (.ref a1), .val (.int p2)] [])) _
    exact X7.returnOut hx Bd.returns (hb hby d2_18) hr
  · show Q2 Z a1 p2 u_counts_a1 u_places_a1 h0 n0 _ T7.heap _
    rw [e7]
    have q4 : own_AF Z h4 b4 .long 4 (fun _ => .long 0) := own_AF.of V_b4 4 (by rw [hp2]; rfl) _ (fun j _ => rfl)
    have q6 : own_AF Z h6 b6 .int 4 (fun _ => .int (Int32.ofNat 0)) := own_AF.of V_b6 4 (by rw [hp2]; rfl) _ (fun j _ => rfl)
    exact ⟨rfl, N7, K7, b4, b6, (((E_a1.ext E4).wr W5).ext E6).wr W7, (Fw5.ext E6).other W7 (Or.inr (slot_ne (Or.inr (hw _ (List.mem_of_getElem? (i := 16) rfl))) (Or.inr (hw _ (List.mem_of_getElem? (i := 19) rfl))) (by decide) (t := (.array .long)) (t' := (.array .int)) (by decide) (by decide))), Fw7, (((F_size_a1.ext E4).other W5 (Or.inr (slot_ne (Or.inl (hw _ (List.mem_of_getElem? (i := 26) rfl))) (Or.inr (hw _ (List.mem_of_getElem? (i := 16) rfl))) (by decide) (t := .int) (t' := (.array .long)) (by decide) (by decide)))).ext E6).other W7 (Or.inr (slot_ne (Or.inl (hw _ (List.mem_of_getElem? (i := 26) rfl))) (Or.inr (hw _ (List.mem_of_getElem? (i := 19) rfl))) (by decide) (t := .int) (t' := (.array .int)) (by decide) (by decide))), q6.other W7 (Nat.ne_of_lt (Nat.lt_of_lt_of_le E_a1.lt sz_b6)).symm, ((q4.other W5 (Nat.ne_of_lt (Nat.lt_of_lt_of_le E_a1.lt sz_b4)).symm).ext E6).other W7 (Nat.ne_of_lt (Nat.lt_of_lt_of_le E_a1.lt sz_b4)).symm, fun _ => by show (0 : Nat) < 4; decide, (Nat.ne_of_lt (Nat.lt_of_lt_of_le E_a1.lt sz_b6)), (Nat.ne_of_lt (Nat.lt_of_lt_of_le E_a1.lt sz_b4)), (Nat.ne_of_lt (Nat.lt_of_lt_of_le A4.lt (Nat.le_trans (Keep.of_wr W5).1 (Nat.le_of_eq g6.symm)))).symm, g_a1, g_b6, g_b4⟩
theorem d7_0 : decode prog_8_method_5_code 0 = .ok (.aload_n 0, 1) := by decide +kernel
theorem d7_1 : decode prog_8_method_5_code 1 = .ok (.dup, 1) := by decide +kernel
theorem d7_2 : decode prog_8_method_5_code 2 = .ok (.getfield 17, 3) := by decide +kernel
theorem d7_5 : decode prog_8_method_5_code 5 = .ok (.dup_x1, 1) := by decide +kernel
theorem d7_6 : decode prog_8_method_5_code 6 = .ok (.iconst 1, 1) := by decide +kernel
theorem d7_7 : decode prog_8_method_5_code 7 = .ok (.iadd, 1) := by decide +kernel
theorem d7_8 : decode prog_8_method_5_code 8 = .ok (.putfield 17, 3) := by decide +kernel
theorem d7_11 : decode prog_8_method_5_code 11 = .ok (.istore 4, 2) := by decide +kernel
theorem os7_11 {z0 : Value} {s1 : Slot} {s2 : Slot} {s3 : Slot} {s4 : Slot} {v : Int32} (h : One s4) : storeLocals #[.val z0, s1, s2, s3, s4] 4 (.int v) = some #[.val z0, s1, s2, s3, .val (.int v)] := by
  rcases h with rfl | ⟨w, rfl, hw⟩
  · rfl
  · cases w <;> first | rfl | (simp [Value.category] at hw)
set_option maxRecDepth 65536 in
set_option maxHeartbeats 40000000 in
theorem tn7_0_13 {p : Program} {l : Launch} {e : Env} {R : Room} {s : State} {m : MethodId} {args : Array Value} {below : List Frame} {meth : Method} {c : Code} {T0 : State} {locs : List Loc} {cells slots : Nat} {Z : State} {a0 : Array Value} {h0 : Heap} {n0 : Nat} (o0 : Addr) (s1 : Slot) (s2 : Slot) (s3 : Slot) (s4 : Slot) (w4 : Int32)
    (X0 : Stand p l e R s m args below meth c T0 locs cells slots) (hx : p.tables.exec = Jvm.exec) (hZ : Z.Warmed39 s.vm) (hw : ∀ d ∈ tables_1, d.before a0 Z = true) (hby : c.code = prog_8_method_5_code) (hml : c.maxLocals = 5) (hown : s.vm.findClass "com/example/upweight/upweight/HeldTerms" = some m.cls) (e0 : T0.heap = h0) (N0 : Fr n0 locs) (Z0 : n0 ≤ h0.size) (F_size_o0 : Fld Z h0 o0 "com/example/upweight/upweight/HeldTerms" "size" "I" (.int w4)) (E_o0 : Exa Z h0 o0 "com/example/upweight/upweight/HeldTerms") (g_o0 : n0 ≤ o0) (hs4 : One s4) :
    ∃ (T' : State) (h' : Heap) (locs' : List Loc), Stand p l e R s m args below meth c T' locs' cells slots ∧ T'.heap = h' ∧ Fr n0 locs' ∧ n0 ≤ h'.size ∧ (Keep h0 h' [o0] ∧ Exa Z h' o0 "com/example/upweight/upweight/HeldTerms" ∧ Fld Z h' o0 "com/example/upweight/upweight/HeldTerms" "size" "I" (.int (w4 + (1 : Int32))) ∧ ∃ W, Wr h0 h' o0 (Jvm.RoadKit.slotOf Z "com/example/upweight/upweight/HeldTerms" "size" "I") W) ∧
      ∀ target, Steps p.tables e below (T'.setTop (mkF m 13 #[.val (.ref o0), s1, s2, s3, .val (.int w4)] [])) target → Steps p.tables e below (T0.setTop (mkF m 0 #[.val (.ref o0), s1, s2, s3, s4] [])) target := by
  obtain ⟨T5, X5, e5, st5⟩ := getF X0 hx hZ hown (host := "") (Or.inl (hw _ (List.mem_of_getElem? (i := 25) rfl))) Via.refl e0 F_size_o0 (g := (mkF m 2 #[.val (.ref o0), s1, s2, s3, s4] [(.ref o0), (.ref o0)])) rfl rfl (hb hby d7_2)
  obtain ⟨T6, h6, X6, e6, W6, st6⟩ := putF X5 hx hZ hown (host := "") (Or.inl (hw _ (List.mem_of_getElem? (i := 25) rfl))) Via.refl e5 F_size_o0 E_o0 (Or.inl (hw _ (List.mem_of_getElem? (i := 26) rfl))) (hw _ (List.mem_of_getElem? (i := 6) rfl)) (ty := .int) (by decide) rfl rfl (g := (mkF m 8 #[.val (.ref o0), s1, s2, s3, s4] [(.int (w4 + (1 : Int32))), (.ref o0), (.int w4)])) rfl rfl (hb hby d7_8)
  have Fw6 := F_size_o0.same W6
  have K6 : Keep h0 h6 [o0] := (Keep.refl h0 [o0]).wr W6 (Or.inl (List.mem_of_getElem? (i := 0) rfl))
  have N6 := Fr.snoc X6 N0 g_o0
  refine ⟨T6, _, _, X6, e6, N6, (Nat.le_trans Z0 K6.1), ⟨K6, E_o0.wr W6, Fw6, _, W6⟩, fun target kt => ?_⟩
  show Steps p.tables e below (T0.setTop (mkF m 0 #[.val (.ref o0), s1, s2, s3, s4] [])) _
  refine XS.aloadN X0.here hx rfl (hb hby d7_0) rfl rfl ?_
  show Steps p.tables e below (T0.setTop (mkF m 1 #[.val (.ref o0), s1, s2, s3, s4] [(.ref o0)])) _
  refine XS.dup X0.here hx rfl (hb hby d7_1) rfl rfl ?_
  show Steps p.tables e below (T0.setTop (mkF m 2 #[.val (.ref o0), s1, s2, s3, s4] [(.ref o0), (.ref o0)])) _
  refine st5 _ ?_
  show Steps p.tables e below (T5.setTop (mkF m 5 #[.val (.ref o0), s1, s2, s3, s4] [(.int w4), (.ref o0)])) _
  refine XS.dupX1 X5.here hx rfl (hb hby d7_5) rfl rfl rfl ?_
  show Steps p.tables e below (T5.setTop (mkF m 6 #[.val (.ref o0), s1, s2, s3, s4] [(.int w4), (.ref o0), (.int w4)])) _
  refine XS.iconst X5.here hx rfl (hb hby d7_6) ?_
  show Steps p.tables e below (T5.setTop (mkF m 7 #[.val (.ref o0), s1, s2, s3, s4] [(.int (1 : Int32)), (.int w4), (.ref o0), (.int w4)])) _
  refine XS.iadd X5.here hx rfl (hb hby d7_7) rfl ?_
  show Steps p.tables e below (T5.setTop (mkF m 8 #[.val (.ref o0), s1, s2, s3, s4] [(.int (w4 + (1 : Int32))), (.ref o0), (.int w4)])) _
  refine st6 _ ?_
  show Steps p.tables e below (T6.setTop (mkF m 11 #[.val (.ref o0), s1, s2, s3, s4] [(.int w4)])) _
  refine XS.istore X6.here hx rfl (hb hby d7_11) rfl (l' := #[.val (.ref o0), s1, s2, s3, .val (.int w4)]) (os7_11 hs4) ?_
  exact kt
theorem d7_13 : decode prog_8_method_5_code 13 = .ok (.iload 4, 2) := by decide +kernel
theorem d7_15 : decode prog_8_method_5_code 15 = .ok (.ifCond .le 38, 3) := by decide +kernel
set_option maxRecDepth 65536 in
set_option maxHeartbeats 40000000 in
theorem tn7_z {p : Program} {l : Launch} {e : Env} {R : Room} {s : State} {m : MethodId} {args : Array Value} {below : List Frame} {meth : Method} {c : Code} {T0 : State} {locs : List Loc} {cells slots : Nat} {Z : State} {a0 : Array Value} {h0 : Heap} (s0 : Slot) (s1 : Slot) (s2 : Slot) (s3 : Slot) (i4 : Int32)
    (X0 : Stand p l e R s m args below meth c T0 locs cells slots) (hx : p.tables.exec = Jvm.exec) (hZ : Z.Warmed39 s.vm) (hw : ∀ d ∈ tables_1, d.before a0 Z = true) (hby : c.code = prog_8_method_5_code) (hml : c.maxLocals = 5) (hown : s.vm.findClass "com/example/upweight/upweight/HeldTerms" = some m.cls) (e0 : T0.heap = h0) (hc15 : ¬ ((0 : Int32) < i4)) :
    ∃ (T' : State), Stand p l e R s m args below meth c T' locs cells slots ∧ T'.heap = h0 ∧
      ∀ target, Steps p.tables e below (T'.setTop (mkF m 53 #[s0, s1, s2, s3, .val (.int i4)] [])) target → Steps p.tables e below (T0.setTop (mkF m 13 #[s0, s1, s2, s3, .val (.int i4)] [])) target := by

  refine ⟨T0, X0, e0, fun target kt => ?_⟩
  show Steps p.tables e below (T0.setTop (mkF m 13 #[s0, s1, s2, s3, .val (.int i4)] [])) _
  refine XS.iload X0.here hx rfl (hb hby d7_13) rfl ?_
  show Steps p.tables e below (T0.setTop (mkF m 15 #[s0, s1, s2, s3, .val (.int i4)] [(.int i4)])) _
  refine XS.ifYes X0.here hx rfl (pc0 := 15) (pc' := 53) rfl (hb hby d7_15) rfl ((if0 _ _).trans (flt hc15).2.2.2) (by decide) (by decide) ?_
  exact kt
theorem d7_18 : decode prog_8_method_5_code 18 = .ok (.aload_n 0, 1) := by decide +kernel
theorem d7_19 : decode prog_8_method_5_code 19 = .ok (.getfield 13, 3) := by decide +kernel
theorem d7_22 : decode prog_8_method_5_code 22 = .ok (.iload 4, 2) := by decide +kernel
theorem d7_24 : decode prog_8_method_5_code 24 = .ok (.iconst 1, 1) := by decide +kernel
theorem d7_25 : decode prog_8_method_5_code 25 = .ok (.isub, 1) := by decide +kernel
theorem d7_26 : decode prog_8_method_5_code 26 = .ok (.iaload, 1) := by decide +kernel
theorem d7_27 : decode prog_8_method_5_code 27 = .ok (.iload_n 1, 1) := by decide +kernel
theorem d7_28 : decode prog_8_method_5_code 28 = .ok (.if_icmp .le 25, 3) := by decide +kernel
set_option maxRecDepth 65536 in
set_option maxHeartbeats 40000000 in
theorem tn7_le {p : Program} {l : Launch} {e : Env} {R : Room} {s : State} {m : MethodId} {args : Array Value} {below : List Frame} {meth : Method} {c : Code} {T0 : State} {locs : List Loc} {cells slots : Nat} {Z : State} {a0 : Array Value} {h0 : Heap} (o0 : Addr) (i1 : Int32) (s2 : Slot) (s3 : Slot) (i4 : Int32) (w4 : Addr) (w6 : Int32) (cl_w4 : Cell)
    (X0 : Stand p l e R s m args below meth c T0 locs cells slots) (hx : p.tables.exec = Jvm.exec) (hZ : Z.Warmed39 s.vm) (hw : ∀ d ∈ tables_1, d.before a0 Z = true) (hby : c.code = prog_8_method_5_code) (hml : c.maxLocals = 5) (hown : s.vm.findClass "com/example/upweight/upweight/HeldTerms" = some m.cls) (e0 : T0.heap = h0) (F_places_o0 : Fld Z h0 o0 "com/example/upweight/upweight/HeldTerms" "places" "[I" (.ref w4)) (Ar_w4 : Arr Z h0 w4 cl_w4 .int) (hin26 : ¬ ((i4 - (1 : Int32)) < 0 ∨ cl_w4.slots.size ≤ ((i4 - (1 : Int32))).toNatClampNeg)) (hat26 : cl_w4.slots[((i4 - (1 : Int32))).toNatClampNeg]? = some (.int w6)) (hc15 : (0 : Int32) < i4) (hc28 : ¬ (i1 < w6)) :
    ∃ (T' : State), Stand p l e R s m args below meth c T' locs cells slots ∧ T'.heap = h0 ∧
      ∀ target, Steps p.tables e below (T'.setTop (mkF m 53 #[.val (.ref o0), .val (.int i1), s2, s3, .val (.int i4)] [])) target → Steps p.tables e below (T0.setTop (mkF m 13 #[.val (.ref o0), .val (.int i1), s2, s3, .val (.int i4)] [])) target := by
  obtain ⟨T5, X5, e5, st5⟩ := getF X0 hx hZ hown (host := "") (Or.inl (hw _ (List.mem_of_getElem? (i := 18) rfl))) Via.refl e0 F_places_o0 (g := (mkF m 19 #[.val (.ref o0), .val (.int i1), s2, s3, .val (.int i4)] [(.ref o0)])) rfl rfl (hb hby d7_19)
  refine ⟨T5, X5, e5, fun target kt => ?_⟩
  show Steps p.tables e below (T0.setTop (mkF m 13 #[.val (.ref o0), .val (.int i1), s2, s3, .val (.int i4)] [])) _
  refine XS.iload X0.here hx rfl (hb hby d7_13) rfl ?_
  show Steps p.tables e below (T0.setTop (mkF m 15 #[.val (.ref o0), .val (.int i1), s2, s3, .val (.int i4)] [(.int i4)])) _
  refine XS.ifNo X0.here hx rfl (hb hby d7_15) rfl ((if0 _ _).trans (tlt hc15).2.2.2) ?_
  show Steps p.tables e below (T0.setTop (mkF m 18 #[.val (.ref o0), .val (.int i1), s2, s3, .val (.int i4)] [])) _
  refine XS.aloadN X0.here hx rfl (hb hby d7_18) rfl rfl ?_
  show Steps p.tables e below (T0.setTop (mkF m 19 #[.val (.ref o0), .val (.int i1), s2, s3, .val (.int i4)] [(.ref o0)])) _
  refine st5 _ ?_
  show Steps p.tables e below (T5.setTop (mkF m 22 #[.val (.ref o0), .val (.int i1), s2, s3, .val (.int i4)] [(.ref w4)])) _
  refine XS.iload X5.here hx rfl (hb hby d7_22) rfl ?_
  show Steps p.tables e below (T5.setTop (mkF m 24 #[.val (.ref o0), .val (.int i1), s2, s3, .val (.int i4)] [(.int i4), (.ref w4)])) _
  refine XS.iconst X5.here hx rfl (hb hby d7_24) ?_
  show Steps p.tables e below (T5.setTop (mkF m 25 #[.val (.ref o0), .val (.int i1), s2, s3, .val (.int i4)] [(.int (1 : Int32)), (.int i4), (.ref w4)])) _
  refine XS.isub X5.here hx rfl (hb hby d7_25) rfl ?_
  show Steps p.tables e below (T5.setTop (mkF m 26 #[.val (.ref o0), .val (.int i1), s2, s3, .val (.int i4)] [(.int (i4 - (1 : Int32))), (.ref w4)])) _
  refine X5.iaload hx (j := (i4 - (1 : Int32))) (v := (.int w6)) (by rw [e5]; exact Ar_w4.1) (State.isArrayOf_alike hZ.alike Ar_w4.2.1) Ar_w4.2.2 hin26 hat26 (g := (mkF m 26 #[.val (.ref o0), .val (.int i1), s2, s3, .val (.int i4)] [(.int (i4 - (1 : Int32))), (.ref w4)])) rfl rfl (hb hby d7_26) _ ?_
  show Steps p.tables e below (T5.setTop (mkF m 27 #[.val (.ref o0), .val (.int i1), s2, s3, .val (.int i4)] [(.int w6)])) _
  refine XS.iloadN X5.here hx rfl (hb hby d7_27) rfl ?_
  show Steps p.tables e below (T5.setTop (mkF m 28 #[.val (.ref o0), .val (.int i1), s2, s3, .val (.int i4)] [(.int i1), (.int w6)])) _
  refine XS.icmpYes X5.here hx rfl (pc0 := 28) (pc' := 53) rfl (hb hby d7_28) rfl (flt hc28).2.2.2 (by decide) (by decide) ?_
  exact kt
theorem d7_31 : decode prog_8_method_5_code 31 = .ok (.aload_n 0, 1) := by decide +kernel
theorem d7_32 : decode prog_8_method_5_code 32 = .ok (.getfield 13, 3) := by decide +kernel
theorem d7_35 : decode prog_8_method_5_code 35 = .ok (.iload 4, 2) := by decide +kernel
theorem d7_37 : decode prog_8_method_5_code 37 = .ok (.aload_n 0, 1) := by decide +kernel
theorem d7_38 : decode prog_8_method_5_code 38 = .ok (.getfield 13, 3) := by decide +kernel
theorem d7_41 : decode prog_8_method_5_code 41 = .ok (.iload 4, 2) := by decide +kernel
theorem d7_43 : decode prog_8_method_5_code 43 = .ok (.iconst 1, 1) := by decide +kernel
theorem d7_44 : decode prog_8_method_5_code 44 = .ok (.isub, 1) := by decide +kernel
theorem d7_45 : decode prog_8_method_5_code 45 = .ok (.iaload, 1) := by decide +kernel
theorem d7_46 : decode prog_8_method_5_code 46 = .ok (.iastore, 1) := by decide +kernel
theorem d7_47 : decode prog_8_method_5_code 47 = .ok (.iinc 4 (-1), 3) := by decide +kernel
theorem d7_50 : decode prog_8_method_5_code 50 = .ok (.goto (-37), 3) := by decide +kernel
set_option maxRecDepth 65536 in
set_option maxHeartbeats 40000000 in
theorem tn7_13_13 {p : Program} {l : Launch} {e : Env} {R : Room} {s : State} {m : MethodId} {args : Array Value} {below : List Frame} {meth : Method} {c : Code} {T0 : State} {locs : List Loc} {cells slots : Nat} {Z : State} {a0 : Array Value} {h0 : Heap} {n0 : Nat} (o0 : Addr) (i1 : Int32) (s2 : Slot) (s3 : Slot) (i4 : Int32) (w4 : Addr) (w6 : Int32) (cl_w4 : Cell) (w9 : Int32)
    (X0 : Stand p l e R s m args below meth c T0 locs cells slots) (hx : p.tables.exec = Jvm.exec) (hZ : Z.Warmed39 s.vm) (hw : ∀ d ∈ tables_1, d.before a0 Z = true) (hby : c.code = prog_8_method_5_code) (hml : c.maxLocals = 5) (hown : s.vm.findClass "com/example/upweight/upweight/HeldTerms" = some m.cls) (e0 : T0.heap = h0) (N0 : Fr n0 locs) (Z0 : n0 ≤ h0.size) (F_places_o0 : Fld Z h0 o0 "com/example/upweight/upweight/HeldTerms" "places" "[I" (.ref w4)) (Ar_w4 : Arr Z h0 w4 cl_w4 .int) (hin26 : ¬ ((i4 - (1 : Int32)) < 0 ∨ cl_w4.slots.size ≤ ((i4 - (1 : Int32))).toNatClampNeg)) (hat26 : cl_w4.slots[((i4 - (1 : Int32))).toNatClampNeg]? = some (.int w6)) (hin45 : ¬ ((i4 - (1 : Int32)) < 0 ∨ cl_w4.slots.size ≤ ((i4 - (1 : Int32))).toNatClampNeg)) (hat45 : cl_w4.slots[((i4 - (1 : Int32))).toNatClampNeg]? = some (.int w9)) (hin46 : ¬ (i4 < 0 ∨ cl_w4.slots.size ≤ (i4).toNatClampNeg)) (g_w4 : n0 ≤ w4) (hc15 : (0 : Int32) < i4) (hc28 : i1 < w6) :
    ∃ (T' : State) (h' : Heap) (locs' : List Loc), Stand p l e R s m args below meth c T' locs' cells slots ∧ T'.heap = h' ∧ Fr n0 locs' ∧ n0 ≤ h'.size ∧ (Keep h0 h' [w4] ∧ Wr h0 h' w4 (i4).toNatClampNeg (.int w9)) ∧
      ∀ target, Steps p.tables e below (T'.setTop (mkF m 13 #[.val (.ref o0), .val (.int i1), s2, s3, .val (.int (i4 + (-1 : Int32)))] [])) target → Steps p.tables e below (T0.setTop (mkF m 13 #[.val (.ref o0), .val (.int i1), s2, s3, .val (.int i4)] [])) target := by
  obtain ⟨T5, X5, e5, st5⟩ := getF X0 hx hZ hown (host := "") (Or.inl (hw _ (List.mem_of_getElem? (i := 18) rfl))) Via.refl e0 F_places_o0 (g := (mkF m 19 #[.val (.ref o0), .val (.int i1), s2, s3, .val (.int i4)] [(.ref o0)])) rfl rfl (hb hby d7_19)
  obtain ⟨T7, X7, e7, st7⟩ := getF X5 hx hZ hown (host := "") (Or.inl (hw _ (List.mem_of_getElem? (i := 18) rfl))) Via.refl e5 F_places_o0 (g := (mkF m 32 #[.val (.ref o0), .val (.int i1), s2, s3, .val (.int i4)] [(.ref o0)])) rfl rfl (hb hby d7_32)
  obtain ⟨T8, X8, e8, st8⟩ := getF X7 hx hZ hown (host := "") (Or.inl (hw _ (List.mem_of_getElem? (i := 18) rfl))) Via.refl e7 F_places_o0 (g := (mkF m 38 #[.val (.ref o0), .val (.int i1), s2, s3, .val (.int i4)] [(.ref o0), (.int i4), (.ref w4)])) rfl rfl (hb hby d7_38)
  obtain ⟨T10, h10, X10, e10, W10, st10⟩ := stI X8 hx hZ e8 Ar_w4 (j := i4) hin46 (g := (mkF m 46 #[.val (.ref o0), .val (.int i1), s2, s3, .val (.int i4)] [(.int w9), (.int i4), (.ref w4)])) rfl rfl (hb hby d7_46)
  have N10 := Fr.snoc X10 N0 g_w4
  have K10 : Keep h0 h10 [w4] := (Keep.refl h0 [w4]).wr W10 (Or.inl (List.mem_of_getElem? (i := 0) rfl))
  refine ⟨T10, _, _, X10, e10, N10, (Nat.le_trans Z0 K10.1), ⟨K10, W10⟩, fun target kt => ?_⟩
  show Steps p.tables e below (T0.setTop (mkF m 13 #[.val (.ref o0), .val (.int i1), s2, s3, .val (.int i4)] [])) _
  refine XS.iload X0.here hx rfl (hb hby d7_13) rfl ?_
  show Steps p.tables e below (T0.setTop (mkF m 15 #[.val (.ref o0), .val (.int i1), s2, s3, .val (.int i4)] [(.int i4)])) _
  refine XS.ifNo X0.here hx rfl (hb hby d7_15) rfl ((if0 _ _).trans (tlt hc15).2.2.2) ?_
  show Steps p.tables e below (T0.setTop (mkF m 18 #[.val (.ref o0), .val (.int i1), s2, s3, .val (.int i4)] [])) _
  refine XS.aloadN X0.here hx rfl (hb hby d7_18) rfl rfl ?_
  show Steps p.tables e below (T0.setTop (mkF m 19 #[.val (.ref o0), .val (.int i1), s2, s3, .val (.int i4)] [(.ref o0)])) _
  refine st5 _ ?_
  show Steps p.tables e below (T5.setTop (mkF m 22 #[.val (.ref o0), .val (.int i1), s2, s3, .val (.int i4)] [(.ref w4)])) _
  refine XS.iload X5.here hx rfl (hb hby d7_22) rfl ?_
  show Steps p.tables e below (T5.setTop (mkF m 24 #[.val (.ref o0), .val (.int i1), s2, s3, .val (.int i4)] [(.int i4), (.ref w4)])) _
  refine XS.iconst X5.here hx rfl (hb hby d7_24) ?_
  show Steps p.tables e below (T5.setTop (mkF m 25 #[.val (.ref o0), .val (.int i1), s2, s3, .val (.int i4)] [(.int (1 : Int32)), (.int i4), (.ref w4)])) _
  refine XS.isub X5.here hx rfl (hb hby d7_25) rfl ?_
  show Steps p.tables e below (T5.setTop (mkF m 26 #[.val (.ref o0), .val (.int i1), s2, s3, .val (.int i4)] [(.int (i4 - (1 : Int32))), (.ref w4)])) _
  refine X5.iaload hx (j := (i4 - (1 : Int32))) (v := (.int w6)) (by rw [e5]; exact Ar_w4.1) (State.isArrayOf_alike hZ.alike Ar_w4.2.1) Ar_w4.2.2 hin26 hat26 (g := (mkF m 26 #[.val (.ref o0), .val (.int i1), s2, s3, .val (.int i4)] [(.int (i4 - (1 : Int32))), (.ref w4)])) rfl rfl (hb hby d7_26) _ ?_
  show Steps p.tables e below (T5.setTop (mkF m 27 #[.val (.ref o0), .val (.int i1), s2, s3, .val (.int i4)] [(.int w6)])) _
  refine XS.iloadN X5.here hx rfl (hb hby d7_27) rfl ?_
  show Steps p.tables e below (T5.setTop (mkF m 28 #[.val (.ref o0), .val (.int i1), s2, s3, .val (.int i4)] [(.int i1), (.int w6)])) _
  refine XS.icmpNo X5.here hx rfl (hb hby d7_28) rfl (tlt hc28).2.2.2 ?_
  show Steps p.tables e below (T5.setTop (mkF m 31 #[.val (.ref o0), .val (.int i1), s2, s3, .val (.int i4)] [])) _
  refine XS.aloadN X5.here hx rfl (hb hby d7_31) rfl rfl ?_
  show Steps p.tables e below (T5.setTop (mkF m 32 #[.val (.ref o0), .val (.int i1), s2, s3, .val (.int i4)] [(.ref o0)])) _
  refine st7 _ ?_
  show Steps p.tables e below (T7.setTop (mkF m 35 #[.val (.ref o0), .val (.int i1), s2, s3, .val (.int i4)] [(.ref w4)])) _
  refine XS.iload X7.here hx rfl (hb hby d7_35) rfl ?_
  show Steps p.tables e below (T7.setTop (mkF m 37 #[.val (.ref o0), .val (.int i1), s2, s3, .val (.int i4)] [(.int i4), (.ref w4)])) _
  refine XS.aloadN X7.here hx rfl (hb hby d7_37) rfl rfl ?_
  show Steps p.tables e below (T7.setTop (mkF m 38 #[.val (.ref o0), .val (.int i1), s2, s3, .val (.int i4)] [(.ref o0), (.int i4), (.ref w4)])) _
  refine st8 _ ?_
  show Steps p.tables e below (T8.setTop (mkF m 41 #[.val (.ref o0), .val (.int i1), s2, s3, .val (.int i4)] [(.ref w4), (.int i4), (.ref w4)])) _
  refine XS.iload X8.here hx rfl (hb hby d7_41) rfl ?_
  show Steps p.tables e below (T8.setTop (mkF m 43 #[.val (.ref o0), .val (.int i1), s2, s3, .val (.int i4)] [(.int i4), (.ref w4), (.int i4), (.ref w4)])) _
  refine XS.iconst X8.here hx rfl (hb hby d7_43) ?_
  show Steps p.tables e below (T8.setTop (mkF m 44 #[.val (.ref o0), .val (.int i1), s2, s3, .val (.int i4)] [(.int (1 : Int32)), (.int i4), (.ref w4), (.int i4), (.ref w4)])) _
  refine XS.isub X8.here hx rfl (hb hby d7_44) rfl ?_
  show Steps p.tables e below (T8.setTop (mkF m 45 #[.val (.ref o0), .val (.int i1), s2, s3, .val (.int i4)] [(.int (i4 - (1 : Int32))), (.ref w4), (.int i4), (.ref w4)])) _
  refine X8.iaload hx (j := (i4 - (1 : Int32))) (v := (.int w9)) (by rw [e8]; exact Ar_w4.1) (State.isArrayOf_alike hZ.alike Ar_w4.2.1) Ar_w4.2.2 hin45 hat45 (g := (mkF m 45 #[.val (.ref o0), .val (.int i1), s2, s3, .val (.int i4)] [(.int (i4 - (1 : Int32))), (.ref w4), (.int i4), (.ref w4)])) rfl rfl (hb hby d7_45) _ ?_
  show Steps p.tables e below (T8.setTop (mkF m 46 #[.val (.ref o0), .val (.int i1), s2, s3, .val (.int i4)] [(.int w9), (.int i4), (.ref w4)])) _
  refine st10 _ ?_
  show Steps p.tables e below (T10.setTop (mkF m 47 #[.val (.ref o0), .val (.int i1), s2, s3, .val (.int i4)] [])) _
  refine XS.iinc X10.here hx rfl (hb hby d7_47) rfl (l' := #[.val (.ref o0), .val (.int i1), s2, s3, .val (.int (i4 + (-1 : Int32)))]) rfl ?_
  show Steps p.tables e below (T10.setTop (mkF m 50 #[.val (.ref o0), .val (.int i1), s2, s3, .val (.int (i4 + (-1 : Int32)))] [])) _
  refine XS.goto X10.here hx rfl (pc0 := 50) (pc' := 13) rfl (hb hby d7_50) (by decide) (by decide) ?_
  exact kt
theorem d7_53 : decode prog_8_method_5_code 53 = .ok (.aload_n 0, 1) := by decide +kernel
theorem d7_54 : decode prog_8_method_5_code 54 = .ok (.getfield 13, 3) := by decide +kernel
theorem d7_57 : decode prog_8_method_5_code 57 = .ok (.iload 4, 2) := by decide +kernel
theorem d7_59 : decode prog_8_method_5_code 59 = .ok (.iload_n 1, 1) := by decide +kernel
theorem d7_60 : decode prog_8_method_5_code 60 = .ok (.iastore, 1) := by decide +kernel
theorem d7_61 : decode prog_8_method_5_code 61 = .ok (.aload_n 0, 1) := by decide +kernel
theorem d7_62 : decode prog_8_method_5_code 62 = .ok (.getfield 7, 3) := by decide +kernel
theorem d7_65 : decode prog_8_method_5_code 65 = .ok (.iload_n 1, 1) := by decide +kernel
theorem d7_66 : decode prog_8_method_5_code 66 = .ok (.lload_n 2, 1) := by decide +kernel
theorem d7_67 : decode prog_8_method_5_code 67 = .ok (.lastore, 1) := by decide +kernel
set_option maxRecDepth 65536 in
set_option maxHeartbeats 40000000 in
theorem tn7_53_68 {p : Program} {l : Launch} {e : Env} {R : Room} {s : State} {m : MethodId} {args : Array Value} {below : List Frame} {meth : Method} {c : Code} {T0 : State} {locs : List Loc} {cells slots : Nat} {Z : State} {a0 : Array Value} {h0 : Heap} {n0 : Nat} (o0 : Addr) (i1 : Int32) (j2 : Int64) (i4 : Int32) (w4 : Addr) (cl_w4 : Cell) (w7 : Addr) (cl_w7 : Cell)
    (X0 : Stand p l e R s m args below meth c T0 locs cells slots) (hx : p.tables.exec = Jvm.exec) (hZ : Z.Warmed39 s.vm) (hw : ∀ d ∈ tables_1, d.before a0 Z = true) (hby : c.code = prog_8_method_5_code) (hml : c.maxLocals = 5) (hown : s.vm.findClass "com/example/upweight/upweight/HeldTerms" = some m.cls) (e0 : T0.heap = h0) (N0 : Fr n0 locs) (Z0 : n0 ≤ h0.size) (F_places_o0 : Fld Z h0 o0 "com/example/upweight/upweight/HeldTerms" "places" "[I" (.ref w4)) (Ar_w4 : Arr Z h0 w4 cl_w4 .int) (hin60 : ¬ (i4 < 0 ∨ cl_w4.slots.size ≤ (i4).toNatClampNeg)) (g_w4 : n0 ≤ w4) (F_counts_o0 : Fld Z h0 o0 "com/example/upweight/upweight/HeldTerms" "counts" "[J" (.ref w7)) (Ar_w7 : Arr Z h0 w7 cl_w7 .long) (hin67 : ¬ (i1 < 0 ∨ cl_w7.slots.size ≤ (i1).toNatClampNeg)) (g_w7 : n0 ≤ w7) (now : o0 ≠ w4) (nwv : w7 ≠ w4) :
    ∃ (T' : State) (h' : Heap) (locs' : List Loc), Stand p l e R s m args below meth c T' locs' cells slots ∧ T'.heap = h' ∧ Fr n0 locs' ∧ n0 ≤ h'.size ∧ (Keep h0 h' [w4, w7] ∧ ∃ h1, Wr h0 h1 w4 (i4).toNatClampNeg (.int i1) ∧ Wr h1 h' w7 (i1).toNatClampNeg (.long j2)) ∧
      ∀ target, Steps p.tables e below (T'.setTop (mkF m 68 #[.val (.ref o0), .val (.int i1), .val (.long j2), .second, .val (.int i4)] [])) target → Steps p.tables e below (T0.setTop (mkF m 53 #[.val (.ref o0), .val (.int i1), .val (.long j2), .second, .val (.int i4)] [])) target := by
  obtain ⟨T5, X5, e5, st5⟩ := getF X0 hx hZ hown (host := "") (Or.inl (hw _ (List.mem_of_getElem? (i := 18) rfl))) Via.refl e0 F_places_o0 (g := (mkF m 54 #[.val (.ref o0), .val (.int i1), .val (.long j2), .second, .val (.int i4)] [(.ref o0)])) rfl rfl (hb hby d7_54)
  obtain ⟨T6, h6, X6, e6, W6, st6⟩ := stI X5 hx hZ e5 Ar_w4 (j := i4) hin60 (g := (mkF m 60 #[.val (.ref o0), .val (.int i1), .val (.long j2), .second, .val (.int i4)] [(.int i1), (.int i4), (.ref w4)])) rfl rfl (hb hby d7_60)
  have N6 := Fr.snoc X6 N0 g_w4
  have K6 : Keep h0 h6 [w4, w7] := (Keep.refl h0 [w4, w7]).wr W6 (Or.inl (List.mem_of_getElem? (i := 0) rfl))
  obtain ⟨T8, X8, e8, st8⟩ := getF X6 hx hZ hown (host := "") (Or.inl (hw _ (List.mem_of_getElem? (i := 15) rfl))) Via.refl e6 (F_counts_o0.other W6 (Or.inl now)) (g := (mkF m 62 #[.val (.ref o0), .val (.int i1), .val (.long j2), .second, .val (.int i4)] [(.ref o0)])) rfl rfl (hb hby d7_62)
  obtain ⟨T9, h9, X9, e9, W9, st9⟩ := stJ X8 hx hZ e8 (Ar_w7.other W6 nwv) (j := i1) hin67 (g := (mkF m 67 #[.val (.ref o0), .val (.int i1), .val (.long j2), .second, .val (.int i4)] [(.long j2), (.int i1), (.ref w7)])) rfl rfl (hb hby d7_67)
  have N9 := Fr.snoc X9 N6 g_w7
  have K9 : Keep h0 h9 [w4, w7] := K6.wr W9 (Or.inl (List.mem_of_getElem? (i := 1) rfl))
  refine ⟨T9, _, _, X9, e9, N9, (Nat.le_trans Z0 K9.1), ⟨K9, _, W6, W9⟩, fun target kt => ?_⟩
  show Steps p.tables e below (T0.setTop (mkF m 53 #[.val (.ref o0), .val (.int i1), .val (.long j2), .second, .val (.int i4)] [])) _
  refine XS.aloadN X0.here hx rfl (hb hby d7_53) rfl rfl ?_
  show Steps p.tables e below (T0.setTop (mkF m 54 #[.val (.ref o0), .val (.int i1), .val (.long j2), .second, .val (.int i4)] [(.ref o0)])) _
  refine st5 _ ?_
  show Steps p.tables e below (T5.setTop (mkF m 57 #[.val (.ref o0), .val (.int i1), .val (.long j2), .second, .val (.int i4)] [(.ref w4)])) _
  refine XS.iload X5.here hx rfl (hb hby d7_57) rfl ?_
  show Steps p.tables e below (T5.setTop (mkF m 59 #[.val (.ref o0), .val (.int i1), .val (.long j2), .second, .val (.int i4)] [(.int i4), (.ref w4)])) _
  refine XS.iloadN X5.here hx rfl (hb hby d7_59) rfl ?_
  show Steps p.tables e below (T5.setTop (mkF m 60 #[.val (.ref o0), .val (.int i1), .val (.long j2), .second, .val (.int i4)] [(.int i1), (.int i4), (.ref w4)])) _
  refine st6 _ ?_
  show Steps p.tables e below (T6.setTop (mkF m 61 #[.val (.ref o0), .val (.int i1), .val (.long j2), .second, .val (.int i4)] [])) _
  refine XS.aloadN X6.here hx rfl (hb hby d7_61) rfl rfl ?_
  show Steps p.tables e below (T6.setTop (mkF m 62 #[.val (.ref o0), .val (.int i1), .val (.long j2), .second, .val (.int i4)] [(.ref o0)])) _
  refine st8 _ ?_
  show Steps p.tables e below (T8.setTop (mkF m 65 #[.val (.ref o0), .val (.int i1), .val (.long j2), .second, .val (.int i4)] [(.ref w7)])) _
  refine XS.iloadN X8.here hx rfl (hb hby d7_65) rfl ?_
  show Steps p.tables e below (T8.setTop (mkF m 66 #[.val (.ref o0), .val (.int i1), .val (.long j2), .second, .val (.int i4)] [(.int i1), (.ref w7)])) _
  refine XS.lloadN X8.here hx rfl (hb hby d7_66) rfl ?_
  show Steps p.tables e below (T8.setTop (mkF m 67 #[.val (.ref o0), .val (.int i1), .val (.long j2), .second, .val (.int i4)] [(.long j2), (.int i1), (.ref w7)])) _
  refine st9 _ ?_
  exact kt

set_option maxRecDepth 65536 in
set_option maxHeartbeats 40000000 in
theorem loop7 {p : Program} {l : Launch} {e : Env} {R : Room} {s : State} {m : MethodId} {args : Array Value} {below : List Frame} {meth : Method} {c : Code} {cells slots : Nat} {Z : State} {a0 : Array Value} {n0 : Nat} (a pa : Addr) (q : Nat) (hq : q < 4) (s2 s3 : Slot) (nap : a ≠ pa) (gp : n0 ≤ pa) (hx : p.tables.exec = Jvm.exec) (hZ : Z.Warmed39 s.vm) (hw : ∀ d ∈ tables_1, d.before a0 Z = true) (hby : c.code = prog_8_method_5_code) (hml : c.maxLocals = 5) (hown : s.vm.findClass "com/example/upweight/upweight/HeldTerms" = some m.cls) :
    ∀ (k : Nat) (hk : k < 4) (f : Nat → Nat) (hf : ∀ j, f j < 4) (T0 : State) (h0 : Heap) (locs : List Loc) (X0 : Stand p l e R s m args below meth c T0 locs cells slots) (e0 : T0.heap = h0) (N0 : Fr n0 locs) (Z0 : n0 ≤ h0.size) (Fp : Fld Z h0 a "com/example/upweight/upweight/HeldTerms" "places" "[I" (.ref pa)) (V : own_AF Z h0 pa .int 4 (fun j => .int (Int32.ofNat (f j)))),
    ∃ (T' : State) (h' : Heap) (locs' : List Loc), Stand p l e R s m args below meth c T' locs' cells slots ∧ T'.heap = h' ∧ Fr n0 locs' ∧ n0 ≤ h'.size ∧ Keep h0 h' [pa] ∧ own_AF Z h' pa .int 4 (fun j => .int (Int32.ofNat ((own_sh q k f).2 j))) ∧
      ∀ target, Steps p.tables e below (T'.setTop (mkF m 53 #[.val (.ref a), .val (.int (Int32.ofNat q)), s2, s3, .val (.int (Int32.ofNat (own_sh q k f).1))] [])) target → Steps p.tables e below (T0.setTop (mkF m 13 #[.val (.ref a), .val (.int (Int32.ofNat q)), s2, s3, .val (.int (Int32.ofNat k))] [])) target := by
  intro k
  induction k with
  | zero =>
    intro hk f hf T0 h0 locs X0 e0 N0 Z0 Fp V
    obtain ⟨T1, X1, e1, st1⟩ := tn7_z (.val (.ref a)) (.val (.int (Int32.ofNat q))) s2 s3 (Int32.ofNat 0) X0 hx hZ hw hby hml hown e0 (by decide)
    exact ⟨T1, h0, locs, X1, e1, N0, Z0, Keep.refl _ _, V, st1⟩
  | succ k ih =>
    intro hk f hf T0 h0 locs X0 e0 N0 Z0 Fp V
    obtain ⟨-, cl, Ar, S, H, G⟩ := id V
    have i1 := own_sub1 k
    have hin : ¬ ((Int32.ofNat (k + 1) - (1 : Int32)) < 0 ∨ cl.slots.size ≤ ((Int32.ofNat (k + 1) - (1 : Int32))).toNatClampNeg) := by rw [i1]; exact own_inb S (by omega) (by decide)
    have hat : cl.slots[((Int32.ofNat (k + 1) - (1 : Int32))).toNatClampNeg]? = some (.int (Int32.ofNat (f k))) := by rw [i1, own_nc (by omega)]; exact H k (by omega)
    have hpos : (0 : Int32) < Int32.ofNat (k + 1) := by
      show Int32.ofNat 0 < _
      rw [own_ltn (by omega) (by omega)]; omega
    by_cases hc : q < f k
    · have hlt : Int32.ofNat q < Int32.ofNat (f k) := (own_ltn (by omega) (by have := hf k; omega)).mpr hc
      have hin2 : ¬ (Int32.ofNat (k + 1) < 0 ∨ cl.slots.size ≤ (Int32.ofNat (k + 1)).toNatClampNeg) := own_inb S (by omega) (by decide)
      obtain ⟨T1, h1, l1, X1, e1, N1, Z1, ⟨K1, W1⟩, st1⟩ := tn7_13_13 a (Int32.ofNat q) s2 s3 (Int32.ofNat (k + 1)) pa (Int32.ofNat (f k)) cl (Int32.ofNat (f k)) X0 hx hZ hw hby hml hown e0 N0 Z0 Fp Ar hin hat hin hat hin2 gp hpos hlt
      rw [own_nc (by omega)] at W1
      have V1 := own_pf V W1 (by omega)
      obtain ⟨T2, h2, l2, X2, e2, N2, Z2, K2, V2, st2⟩ := ih (by omega) (own_upd f (k + 1) (f k)) (own_updlt hf _ _ (hf k)) T1 h1 l1 X1 e1 N1 Z1 (Fp.other W1 (Or.inl nap)) V1
      have es : own_sh q (k + 1) f = own_sh q k (own_upd f (k + 1) (f k)) := by simp only [own_sh]; rw [if_pos hc]
      rw [es]
      refine ⟨T2, h2, l2, X2, e2, N2, Z2, K1.trans K2 (allS (Or.inl (List.mem_singleton.mpr rfl)) all0), V2, fun target kt => st1 target ?_⟩
      rw [own_dec1]; exact st2 target kt
    · have hlt : ¬ (Int32.ofNat q < Int32.ofNat (f k)) := by rw [own_ltn (by omega) (by have := hf k; omega)]; exact hc
      obtain ⟨T1, X1, e1, st1⟩ := tn7_le a (Int32.ofNat q) s2 s3 (Int32.ofNat (k + 1)) pa (Int32.ofNat (f k)) cl X0 hx hZ hw hby hml hown e0 Fp Ar hin hat hpos hlt
      have es : own_sh q (k + 1) f = (k + 1, f) := by simp only [own_sh]; rw [if_neg hc]
      rw [es]
      exact ⟨T1, h0, locs, X1, e1, N0, Z0, Keep.refl _ _, V, st1⟩
theorem d7_68 : decode prog_8_method_5_code 68 = .ok (.return_, 1) := by decide +kernel
theorem pn_7 : plainName "com/example/upweight/upweight/HeldTerms" = true := by first | (simp [plainName, overriddenIn]; done) | decide +kernel
theorem ef_7 (m : MethodId) (x0 : Addr) (x1 : Int32) (x2 : Int64) : entryFrame m #[(.ref x0), (.int x1), (.long x2)] 5 = mkF m 0 #[.val (.ref x0), .val (.int x1), .val (.long x2), .second, .unset] [] := by first | (simp [entryFrame, mkF, argsToLocals, Value.category]; done) | rfl

def Q7 (Z : State) (n0 : Nat) (a ca pa : Addr) (n : Nat) (f : Nat → Nat) (g : Nat → Int64) (q : Nat) (c : Int64) (h0 : Heap) (v : Option Value) (h : Heap) (L : List Loc) : Prop := v = none ∧ Fr n0 L ∧ Keep h0 h [a, pa, ca] ∧ own_HT Z n0 h a ca pa (n + 1) (own_ins q n f) (own_upd g q c)
set_option maxRecDepth 65536 in
set_option maxHeartbeats 40000000 in
theorem rm7 (l : Launch) (Z : State) (a0 : Array Value) (hw : ∀ d ∈ tables_1, d.before a0 Z = true) (ws : List Jvm.Cond) (a1 ca pa : Addr) (n : Nat) (f : Nat → Nat) (g : Nat → Int64) (q : Nat) (q3 : Int64) (h0 : Heap) (n0 : Nat) (Z0 : n0 ≤ h0.size) (HT : own_HT Z n0 h0 a1 ca pa n f g) (hn : n < 4) (hq : q < 4) :
    MetFree l (⟨"com/example/upweight/upweight/HeldTerms", "add", "(IJ)V"⟩ : MethodName) (head1 (Jvm.Cond.code (⟨"com/example/upweight/upweight/HeldTerms", "add", "(IJ)V"⟩ : MethodName) prog_8_method_5_code 5 none :: ws) ({ frames := 0, cells := 0, slots := 0, locals := 0 } : Room)) (fun a U => a = #[(.ref a1), (.int (Int32.ofNat q)), (.long q3)] ∧ Z.Warmed39 U.vm ∧ U.heap = h0) (fun _ _ _ _ _ => True) (fun _ U o U' => ∃ v L, o = .returned v ∧ Q7 Z n0 a1 ca pa n f g q q3 h0 v U'.heap L ∧ FrameEnd U o U' L ({ frames := 0, cells := 0, slots := 0, locals := 0 } : Room).cells ({ frames := 0, cells := 0, slots := 0, locals := 0 } : Room).slots) := by
  refine MetFree.of_bodySF (plainFor_of_name pn_7) hisR ?_
  intro p e s m args below meth c s₁ Bd hml0 hP hK
  obtain ⟨rfl, hZ, hh⟩ := hP
  have hx := Bd.exec
  have hby := Bd.bytes
  have hml : c.maxLocals = 5 := hml0
  have hown : s.vm.findClass "com/example/upweight/upweight/HeldTerms" = some m.cls := findClass_of_methodNamed Bd.named
  have X0 : Stand p l e ({ frames := 0, cells := 0, slots := 0, locals := 0 } : Room) s m #[(.ref a1), (.int (Int32.ofNat q)), (.long q3)] below meth c s₁ [] 0 0 := Stand.of_body Bd
  have e0 : s₁.heap = h0 := by rw [← hh, Bd.state]; rfl
  have N0 := Fr.nil n0
  obtain ⟨E, Fc, Fp, Fs, Vp, Vc, hf, nap, nac, npc, ga, gp, gc⟩ := HT
  have pre0 : ∀ t, Steps p.tables e below (s₁.setTop (mkF m 0 #[.val (.ref a1), .val (.int (Int32.ofNat q)), .val (.long q3), .second, .unset] [])) t → Steps p.tables e below (s₁.setTop (entryFrame m #[(.ref a1), (.int (Int32.ofNat q)), (.long q3)] 5)) t := fun t k => castTop (ef_7 m a1 (Int32.ofNat q) q3) k
  obtain ⟨T1, h1, l1, X1, e1, N1, Z1, ⟨K1, E1, Fs1, wv, W1⟩, st1⟩ := tn7_0_13 a1 (.val (.int (Int32.ofNat q))) (.val (.long q3)) .second .unset (Int32.ofNat n) X0 hx hZ hw hby hml hown e0 N0 Z0 Fs E ga One.u
  have Fp1 := Fp.other W1 (Or.inr (slot_ne (Or.inr (hw _ (List.mem_of_getElem? (i := 19) rfl))) (Or.inl (hw _ (List.mem_of_getElem? (i := 26) rfl))) (by decide) (t := (.array .int)) (t' := .int) (by decide) (by decide)))
  have Fc1 := Fc.other W1 (Or.inr (slot_ne (Or.inr (hw _ (List.mem_of_getElem? (i := 16) rfl))) (Or.inl (hw _ (List.mem_of_getElem? (i := 26) rfl))) (by decide) (t := (.array .long)) (t' := .int) (by decide) (by decide)))
  have Vp1 := Vp.other W1 nap.symm
  have Vc1 := Vc.other W1 nac.symm
  obtain ⟨T2, h2, l2, X2, e2, N2, Z2, K2, Vp2, st2⟩ := loop7 a1 pa q hq (.val (.long q3)) .second nap gp hx hZ hw hby hml hown n hn f hf T1 h1 l1 X1 e1 N1 Z1 Fp1 Vp1
  have hle := own_sh_le q n f
  obtain ⟨-, clp, Arp, Sp, -, -⟩ := id Vp2
  obtain ⟨-, clc, Arc, Sc, -, -⟩ := id (Vc1.keep K2 (ninS npc.symm nin0))
  have Fp2 := Fp1.keep K2 (ninS nap nin0)
  have Fc2 := Fc1.keep K2 (ninS nap nin0)
  have Fs2 := Fs1.keep K2 (ninS nap nin0)
  obtain ⟨T3, h3, l3, X3, e3, N3, Z3, ⟨K3, h4, W4, W5⟩, st3⟩ := tn7_53_68 a1 (Int32.ofNat q) q3 (Int32.ofNat (own_sh q n f).1) pa clp ca clc X2 hx hZ hw hby hml hown e2 N2 Z2 Fp2 Arp (own_inb Sp (by omega) (by decide)) gp Fc2 Arc (own_inb Sc hq (by decide)) gc nap npc.symm
  rw [own_nc (by omega)] at W4 W5
  have Vp4 := own_pf Vp2 W4 (by omega)
  have Vc4 := (Vc1.keep K2 (ninS npc.symm nin0)).other W4 npc.symm
  have Vc5 := own_cf Vc4 W5 hq
  obtain ⟨fs, hr, hrun, hended, hW, hsame⟩ := X3.leave (v := none) (fun _ => rfl)
  refine ⟨_, _, pre0 _ ?_, hrun, hended, _, _, rfl, ?_, ⟨_, rfl⟩, hW, hsame.mono (by decide) (by decide)⟩
  · exact st1 _ (st2 _ (st3 _ (X3.returnOut hx Bd.returns (hb hby d7_68) hr)))
  · show Q7 Z n0 a1 ca pa n f g q q3 h0 _ T3.heap _
    rw [e3]
    refine ⟨rfl, N3, ?_, ((E1.keep K2).wr W4).wr W5, (Fc2.other W4 (Or.inl nap)).other W5 (Or.inl nac), (Fp2.other W4 (Or.inl nap)).other W5 (Or.inl nac), ?_, Vp4.other W5 npc, Vc5, own_updlt (own_sh_lt q 4 n f hf) _ _ hq, nap, nac, npc, ga, gp, gc⟩
    · have k1 : Keep h0 h1 [a1, pa, ca] := (Keep.refl h0 _).trans K1 (allS (Or.inl (List.mem_of_getElem? (i := 0) rfl)) all0)
      have k2 : Keep h0 h2 [a1, pa, ca] := k1.trans K2 (allS (Or.inl (List.mem_of_getElem? (i := 1) rfl)) all0)
      exact k2.trans K3 (allS (Or.inl (List.mem_of_getElem? (i := 1) rfl)) (allS (Or.inl (List.mem_of_getElem? (i := 2) rfl)) all0))
    · have z := (Fs2.other W4 (Or.inl nap)).other W5 (Or.inl nac)
      rw [own_add1] at z; exact z
theorem d5_0 : decode prog_8_method_2_code 0 = .ok (.aload_n 0, 1) := by decide +kernel
theorem d5_1 : decode prog_8_method_2_code 1 = .ok (.getfield 17, 3) := by decide +kernel
theorem d5_4 : decode prog_8_method_2_code 4 = .ok (.ireturn, 1) := by decide +kernel
theorem pn_5 : plainName "com/example/upweight/upweight/HeldTerms" = true := by first | (simp [plainName, overriddenIn]; done) | decide +kernel
theorem ef_5 (m : MethodId) (x0 : Addr) : entryFrame m #[(.ref x0)] 1 = mkF m 0 #[.val (.ref x0)] [] := by first | (simp [entryFrame, mkF, argsToLocals, Value.category]; done) | rfl
def Q5 (Z : State) (a1 : Addr) (w2 : Int32) (h0 : Heap) (n0 : Nat) (v : Option Value) (h : Heap) (L : List Loc) : Prop := v = some (.int w2) ∧ Fr n0 L ∧ h = h0
set_option maxRecDepth 65536 in
set_option maxHeartbeats 40000000 in
theorem rm5 (l : Launch) (Z : State) (a0 : Array Value) (hw : ∀ d ∈ tables_1, d.before a0 Z = true) (ws : List Jvm.Cond) (a1 : Addr) (w2 : Int32) (h0 : Heap) (n0 : Nat) (Z0 : n0 ≤ h0.size) (F_size_a1 : Fld Z h0 a1 "com/example/upweight/upweight/HeldTerms" "size" "I" (.int w2)) :
    MetFree l (⟨"com/example/upweight/upweight/HeldTerms", "size", "()I"⟩ : MethodName) (head1 (Jvm.Cond.code (⟨"com/example/upweight/upweight/HeldTerms", "size", "()I"⟩ : MethodName) prog_8_method_2_code 1 (some .int) :: ws) ({ frames := 0, cells := 0, slots := 0, locals := 0 } : Room)) (fun a U => a = #[(.ref a1)] ∧ Z.Warmed39 U.vm ∧ U.heap = h0) (fun _ _ _ _ _ => True) (fun _ U o U' => ∃ v L, o = .returned v ∧ Q5 Z a1 w2 h0 n0 v U'.heap L ∧ FrameEnd U o U' L ({ frames := 0, cells := 0, slots := 0, locals := 0 } : Room).cells ({ frames := 0, cells := 0, slots := 0, locals := 0 } : Room).slots) := by
  refine MetFree.of_bodySF (plainFor_of_name pn_5) hisR ?_
  intro p e s m args below meth c s₁ Bd hml0 hP hK
  obtain ⟨rfl, hZ, hh⟩ := hP
  have hx := Bd.exec
  have hby := Bd.bytes
  have hml : c.maxLocals = 1 := hml0
  have hown : s.vm.findClass "com/example/upweight/upweight/HeldTerms" = some m.cls := findClass_of_methodNamed Bd.named
  have hnm := (name_of_methodNamed Bd.named Bd.method).1
  have X0 : Stand p l e ({ frames := 0, cells := 0, slots := 0, locals := 0 } : Room) s m #[(.ref a1)] below meth c s₁ [] 0 0 := Stand.of_body Bd
  have e0 : s₁.heap = h0 := by rw [← hh, Bd.state]; rfl
  have N0 := Fr.nil n0
  have pre0 : ∀ t, Steps p.tables e below (s₁.setTop (mkF m 0 #[.val (.ref a1)] [])) t → Steps p.tables e below (s₁.setTop (entryFrame m #[(.ref a1)] 1)) t := fun t k => castTop (ef_5 m a1) k
  obtain ⟨T3, X3, e3, st3⟩ := getF X0 hx hZ hown (host := "") (Or.inl (hw _ (List.mem_of_getElem? (i := 25) rfl))) Via.refl e0 F_size_a1 (g := (mkF m 1 #[.val (.ref a1)] [(.ref a1)])) rfl rfl (hb hby d5_1)
  obtain ⟨fs, hr, hrun, hended, hW, hsame⟩ := X3.leave (v := some (.int w2)) (fun h => by rw [Bd.returns] at h; cases h)
  refine ⟨_, _, pre0 _ ?_, hrun, hended, _, _, rfl, ?_, ⟨_, rfl⟩, hW, hsame.mono (by decide) (by decide)⟩
  · show Steps p.tables e below (s₁.setTop (mkF m 0 #[.val (.ref a1)] [])) _
    refine XS.aloadN X0.here hx rfl (hb hby d5_0) rfl rfl ?_
    show Steps p.tables e below (s₁.setTop (mkF m 1 #[.val (.ref a1)] [(.ref a1)])) _
    refine st3 _ ?_
    show Steps p.tables e below (T3.setTop (mkF m 4 #[.val (.ref a1)] [(.int w2)])) _
    exact retI X3 hx Bd.returns (hb hby d5_4) hr
  · show Q5 Z a1 w2 h0 n0 _ T3.heap _
    rw [e3]
    exact ⟨rfl, N0, rfl⟩
theorem d6_0 : decode prog_8_method_4_code 0 = .ok (.aload_n 0, 1) := by decide +kernel
theorem d6_1 : decode prog_8_method_4_code 1 = .ok (.getfield 7, 3) := by decide +kernel
theorem d6_4 : decode prog_8_method_4_code 4 = .ok (.iload_n 1, 1) := by decide +kernel
theorem d6_5 : decode prog_8_method_4_code 5 = .ok (.laload, 1) := by decide +kernel
theorem d6_6 : decode prog_8_method_4_code 6 = .ok (.lreturn, 1) := by decide +kernel
theorem pn_6 : plainName "com/example/upweight/upweight/HeldTerms" = true := by first | (simp [plainName, overriddenIn]; done) | decide +kernel
theorem ef_6 (m : MethodId) (x0 : Addr) (x1 : Int32) : entryFrame m #[(.ref x0), (.int x1)] 2 = mkF m 0 #[.val (.ref x0), .val (.int x1)] [] := by first | (simp [entryFrame, mkF, argsToLocals, Value.category]; done) | rfl
def Q6 (Z : State) (a1 : Addr) (p2 : Int32) (w3 : Addr) (w5 : Int64) (cl_w3 : Cell) (h0 : Heap) (n0 : Nat) (v : Option Value) (h : Heap) (L : List Loc) : Prop := v = some (.long w5) ∧ Fr n0 L ∧ h = h0
set_option maxRecDepth 65536 in
set_option maxHeartbeats 40000000 in
theorem rm6 (l : Launch) (Z : State) (a0 : Array Value) (hw : ∀ d ∈ tables_1, d.before a0 Z = true) (ws : List Jvm.Cond) (a1 : Addr) (p2 : Int32) (w3 : Addr) (w5 : Int64) (cl_w3 : Cell) (h0 : Heap) (n0 : Nat) (Z0 : n0 ≤ h0.size) (F_counts_a1 : Fld Z h0 a1 "com/example/upweight/upweight/HeldTerms" "counts" "[J" (.ref w3)) (Ar_w3 : Arr Z h0 w3 cl_w3 .long) (hin5 : ¬ (p2 < 0 ∨ cl_w3.slots.size ≤ (p2).toNatClampNeg)) (hat5 : cl_w3.slots[(p2).toNatClampNeg]? = some (.long w5)) :
    MetFree l (⟨"com/example/upweight/upweight/HeldTerms", "count", "(I)J"⟩ : MethodName) (head1 (Jvm.Cond.code (⟨"com/example/upweight/upweight/HeldTerms", "count", "(I)J"⟩ : MethodName) prog_8_method_4_code 2 (some .long) :: ws) ({ frames := 0, cells := 0, slots := 0, locals := 0 } : Room)) (fun a U => a = #[(.ref a1), (.int p2)] ∧ Z.Warmed39 U.vm ∧ U.heap = h0) (fun _ _ _ _ _ => True) (fun _ U o U' => ∃ v L, o = .returned v ∧ Q6 Z a1 p2 w3 w5 cl_w3 h0 n0 v U'.heap L ∧ FrameEnd U o U' L ({ frames := 0, cells := 0, slots := 0, locals := 0 } : Room).cells ({ frames := 0, cells := 0, slots := 0, locals := 0 } : Room).slots) := by
  refine MetFree.of_bodySF (plainFor_of_name pn_6) hisR ?_
  intro p e s m args below meth c s₁ Bd hml0 hP hK
  obtain ⟨rfl, hZ, hh⟩ := hP
  have hx := Bd.exec
  have hby := Bd.bytes
  have hml : c.maxLocals = 2 := hml0
  have hown : s.vm.findClass "com/example/upweight/upweight/HeldTerms" = some m.cls := findClass_of_methodNamed Bd.named
  have hnm := (name_of_methodNamed Bd.named Bd.method).1
  have X0 : Stand p l e ({ frames := 0, cells := 0, slots := 0, locals := 0 } : Room) s m #[(.ref a1), (.int p2)] below meth c s₁ [] 0 0 := Stand.of_body Bd
  have e0 : s₁.heap = h0 := by rw [← hh, Bd.state]; rfl
  have N0 := Fr.nil n0
  have pre0 : ∀ t, Steps p.tables e below (s₁.setTop (mkF m 0 #[.val (.ref a1), .val (.int p2)] [])) t → Steps p.tables e below (s₁.setTop (entryFrame m #[(.ref a1), (.int p2)] 2)) t := fun t k => castTop (ef_6 m a1 p2) k
  obtain ⟨T4, X4, e4, st4⟩ := getF X0 hx hZ hown (host := "") (Or.inl (hw _ (List.mem_of_getElem? (i := 15) rfl))) Via.refl e0 F_counts_a1 (g := (mkF m 1 #[.val (.ref a1), .val (.int p2)] [(.ref a1)])) rfl rfl (hb hby d6_1)
  obtain ⟨fs, hr, hrun, hended, hW, hsame⟩ := X4.leave (v := some (.long w5)) (fun h => by rw [Bd.returns] at h; cases h)
  refine ⟨_, _, pre0 _ ?_, hrun, hended, _, _, rfl, ?_, ⟨_, rfl⟩, hW, hsame.mono (by decide) (by decide)⟩
  · show Steps p.tables e below (s₁.setTop (mkF m 0 #[.val (.ref a1), .val (.int p2)] [])) _
    refine XS.aloadN X0.here hx rfl (hb hby d6_0) rfl rfl ?_
    show Steps p.tables e below (s₁.setTop (mkF m 1 #[.val (.ref a1), .val (.int p2)] [(.ref a1)])) _
    refine st4 _ ?_
    show Steps p.tables e below (T4.setTop (mkF m 4 #[.val (.ref a1), .val (.int p2)] [(.ref w3)])) _
    refine XS.iloadN X4.here hx rfl (hb hby d6_4) rfl ?_
    show Steps p.tables e below (T4.setTop (mkF m 5 #[.val (.ref a1), .val (.int p2)] [(.int p2), (.ref w3)])) _
    refine X4.laload hx (j := p2) (v := (.long w5)) (by rw [e4]; exact Ar_w3.1) (State.isArrayOf_alike hZ.alike Ar_w3.2.1) Ar_w3.2.2 hin5 hat5 (g := (mkF m 5 #[.val (.ref a1), .val (.int p2)] [(.int p2), (.ref w3)])) rfl rfl (hb hby d6_5) _ ?_
    show Steps p.tables e below (T4.setTop (mkF m 6 #[.val (.ref a1), .val (.int p2)] [(.long w5)])) _
    exact own_retL X4 hx Bd.returns (hb hby d6_6) hr
  · show Q6 Z a1 p2 w3 w5 cl_w3 h0 n0 _ T4.heap _
    rw [e4]
    exact ⟨rfl, N0, rfl⟩

def own_clr (f : Nat → Nat) : Nat → (Nat → Int64) → (Nat → Int64)
  | 0, g => g
  | k + 1, g => own_upd (own_clr f k g) (f k) 0
theorem d4_2 : decode prog_8_method_6_code 2 = .ok (.iload_n 1, 1) := by decide +kernel
theorem d4_3 : decode prog_8_method_6_code 3 = .ok (.aload_n 0, 1) := by decide +kernel
theorem d4_4 : decode prog_8_method_6_code 4 = .ok (.getfield 17, 3) := by decide +kernel
theorem d4_7 : decode prog_8_method_6_code 7 = .ok (.if_icmp .ge 21, 3) := by decide +kernel
set_option maxRecDepth 65536 in
set_option maxHeartbeats 40000000 in
theorem tn4_z {p : Program} {l : Launch} {e : Env} {R : Room} {s : State} {m : MethodId} {args : Array Value} {below : List Frame} {meth : Method} {c : Code} {T0 : State} {locs : List Loc} {cells slots : Nat} {Z : State} {a0 : Array Value} {h0 : Heap} (o0 : Addr) (i1 : Int32) (w2 : Int32)
    (X0 : Stand p l e R s m args below meth c T0 locs cells slots) (hx : p.tables.exec = Jvm.exec) (hZ : Z.Warmed39 s.vm) (hw : ∀ d ∈ tables_1, d.before a0 Z = true) (hby : c.code = prog_8_method_6_code) (hml : c.maxLocals = 2) (hown : s.vm.findClass "com/example/upweight/upweight/HeldTerms" = some m.cls) (e0 : T0.heap = h0) (F_size_o0 : Fld Z h0 o0 "com/example/upweight/upweight/HeldTerms" "size" "I" (.int w2)) (hc7 : ¬ (i1 < w2)) :
    ∃ (T' : State), Stand p l e R s m args below meth c T' locs cells slots ∧ T'.heap = h0 ∧
      ∀ target, Steps p.tables e below (T'.setTop (mkF m 28 #[.val (.ref o0), .val (.int i1)] [])) target → Steps p.tables e below (T0.setTop (mkF m 2 #[.val (.ref o0), .val (.int i1)] [])) target := by
  obtain ⟨T3, X3, e3, st3⟩ := getF X0 hx hZ hown (host := "") (Or.inl (hw _ (List.mem_of_getElem? (i := 25) rfl))) Via.refl e0 F_size_o0 (g := (mkF m 4 #[.val (.ref o0), .val (.int i1)] [(.ref o0), (.int i1)])) rfl rfl (hb hby d4_4)
  refine ⟨T3, X3, e3, fun target kt => ?_⟩
  show Steps p.tables e below (T0.setTop (mkF m 2 #[.val (.ref o0), .val (.int i1)] [])) _
  refine XS.iloadN X0.here hx rfl (hb hby d4_2) rfl ?_
  show Steps p.tables e below (T0.setTop (mkF m 3 #[.val (.ref o0), .val (.int i1)] [(.int i1)])) _
  refine XS.aloadN X0.here hx rfl (hb hby d4_3) rfl rfl ?_
  show Steps p.tables e below (T0.setTop (mkF m 4 #[.val (.ref o0), .val (.int i1)] [(.ref o0), (.int i1)])) _
  refine st3 _ ?_
  show Steps p.tables e below (T3.setTop (mkF m 7 #[.val (.ref o0), .val (.int i1)] [(.int w2), (.int i1)])) _
  refine XS.icmpYes X3.here hx rfl (pc0 := 7) (pc' := 28) rfl (hb hby d4_7) rfl (flt hc7).2.1 (by decide) (by decide) ?_
  exact kt
theorem d4_10 : decode prog_8_method_6_code 10 = .ok (.aload_n 0, 1) := by decide +kernel
theorem d4_11 : decode prog_8_method_6_code 11 = .ok (.getfield 7, 3) := by decide +kernel
theorem d4_14 : decode prog_8_method_6_code 14 = .ok (.aload_n 0, 1) := by decide +kernel
theorem d4_15 : decode prog_8_method_6_code 15 = .ok (.getfield 13, 3) := by decide +kernel
theorem d4_18 : decode prog_8_method_6_code 18 = .ok (.iload_n 1, 1) := by decide +kernel
theorem d4_19 : decode prog_8_method_6_code 19 = .ok (.iaload, 1) := by decide +kernel
theorem d4_20 : decode prog_8_method_6_code 20 = .ok (.lconst 0, 1) := by decide +kernel
theorem d4_21 : decode prog_8_method_6_code 21 = .ok (.lastore, 1) := by decide +kernel
theorem d4_22 : decode prog_8_method_6_code 22 = .ok (.iinc 1 1, 3) := by decide +kernel
theorem d4_25 : decode prog_8_method_6_code 25 = .ok (.goto (-23), 3) := by decide +kernel
set_option maxRecDepth 65536 in
set_option maxHeartbeats 40000000 in
theorem tn4_2_2 {p : Program} {l : Launch} {e : Env} {R : Room} {s : State} {m : MethodId} {args : Array Value} {below : List Frame} {meth : Method} {c : Code} {T0 : State} {locs : List Loc} {cells slots : Nat} {Z : State} {a0 : Array Value} {h0 : Heap} {n0 : Nat} (o0 : Addr) (i1 : Int32) (w2 : Int32) (w4 : Addr) (w6 : Addr) (w8 : Int32) (cl_w6 : Cell) (cl_w4 : Cell)
    (X0 : Stand p l e R s m args below meth c T0 locs cells slots) (hx : p.tables.exec = Jvm.exec) (hZ : Z.Warmed39 s.vm) (hw : ∀ d ∈ tables_1, d.before a0 Z = true) (hby : c.code = prog_8_method_6_code) (hml : c.maxLocals = 2) (hown : s.vm.findClass "com/example/upweight/upweight/HeldTerms" = some m.cls) (e0 : T0.heap = h0) (N0 : Fr n0 locs) (Z0 : n0 ≤ h0.size) (F_size_o0 : Fld Z h0 o0 "com/example/upweight/upweight/HeldTerms" "size" "I" (.int w2)) (F_counts_o0 : Fld Z h0 o0 "com/example/upweight/upweight/HeldTerms" "counts" "[J" (.ref w4)) (F_places_o0 : Fld Z h0 o0 "com/example/upweight/upweight/HeldTerms" "places" "[I" (.ref w6)) (Ar_w6 : Arr Z h0 w6 cl_w6 .int) (hin19 : ¬ (i1 < 0 ∨ cl_w6.slots.size ≤ (i1).toNatClampNeg)) (hat19 : cl_w6.slots[(i1).toNatClampNeg]? = some (.int w8)) (Ar_w4 : Arr Z h0 w4 cl_w4 .long) (hin21 : ¬ (w8 < 0 ∨ cl_w4.slots.size ≤ (w8).toNatClampNeg)) (g_w4 : n0 ≤ w4) (hc7 : i1 < w2) :
    ∃ (T' : State) (h' : Heap) (locs' : List Loc), Stand p l e R s m args below meth c T' locs' cells slots ∧ T'.heap = h' ∧ Fr n0 locs' ∧ n0 ≤ h'.size ∧ (Keep h0 h' [w4] ∧ Wr h0 h' w4 (w8).toNatClampNeg (.long (0 : Int64))) ∧
      ∀ target, Steps p.tables e below (T'.setTop (mkF m 2 #[.val (.ref o0), .val (.int (i1 + (1 : Int32)))] [])) target → Steps p.tables e below (T0.setTop (mkF m 2 #[.val (.ref o0), .val (.int i1)] [])) target := by
  obtain ⟨T3, X3, e3, st3⟩ := getF X0 hx hZ hown (host := "") (Or.inl (hw _ (List.mem_of_getElem? (i := 25) rfl))) Via.refl e0 F_size_o0 (g := (mkF m 4 #[.val (.ref o0), .val (.int i1)] [(.ref o0), (.int i1)])) rfl rfl (hb hby d4_4)
  obtain ⟨T5, X5, e5, st5⟩ := getF X3 hx hZ hown (host := "") (Or.inl (hw _ (List.mem_of_getElem? (i := 15) rfl))) Via.refl e3 F_counts_o0 (g := (mkF m 11 #[.val (.ref o0), .val (.int i1)] [(.ref o0)])) rfl rfl (hb hby d4_11)
  obtain ⟨T7, X7, e7, st7⟩ := getF X5 hx hZ hown (host := "") (Or.inl (hw _ (List.mem_of_getElem? (i := 18) rfl))) Via.refl e5 F_places_o0 (g := (mkF m 15 #[.val (.ref o0), .val (.int i1)] [(.ref o0), (.ref w4)])) rfl rfl (hb hby d4_15)
  obtain ⟨T9, h9, X9, e9, W9, st9⟩ := stJ X7 hx hZ e7 Ar_w4 (j := w8) hin21 (g := (mkF m 21 #[.val (.ref o0), .val (.int i1)] [(.long (0 : Int64)), (.int w8), (.ref w4)])) rfl rfl (hb hby d4_21)
  have N9 := Fr.snoc X9 N0 g_w4
  have K9 : Keep h0 h9 [w4] := (Keep.refl h0 [w4]).wr W9 (Or.inl (List.mem_of_getElem? (i := 0) rfl))
  refine ⟨T9, _, _, X9, e9, N9, (Nat.le_trans Z0 K9.1), ⟨K9, W9⟩, fun target kt => ?_⟩
  show Steps p.tables e below (T0.setTop (mkF m 2 #[.val (.ref o0), .val (.int i1)] [])) _
  refine XS.iloadN X0.here hx rfl (hb hby d4_2) rfl ?_
  show Steps p.tables e below (T0.setTop (mkF m 3 #[.val (.ref o0), .val (.int i1)] [(.int i1)])) _
  refine XS.aloadN X0.here hx rfl (hb hby d4_3) rfl rfl ?_
  show Steps p.tables e below (T0.setTop (mkF m 4 #[.val (.ref o0), .val (.int i1)] [(.ref o0), (.int i1)])) _
  refine st3 _ ?_
  show Steps p.tables e below (T3.setTop (mkF m 7 #[.val (.ref o0), .val (.int i1)] [(.int w2), (.int i1)])) _
  refine XS.icmpNo X3.here hx rfl (hb hby d4_7) rfl (tlt hc7).2.1 ?_
  show Steps p.tables e below (T3.setTop (mkF m 10 #[.val (.ref o0), .val (.int i1)] [])) _
  refine XS.aloadN X3.here hx rfl (hb hby d4_10) rfl rfl ?_
  show Steps p.tables e below (T3.setTop (mkF m 11 #[.val (.ref o0), .val (.int i1)] [(.ref o0)])) _
  refine st5 _ ?_
  show Steps p.tables e below (T5.setTop (mkF m 14 #[.val (.ref o0), .val (.int i1)] [(.ref w4)])) _
  refine XS.aloadN X5.here hx rfl (hb hby d4_14) rfl rfl ?_
  show Steps p.tables e below (T5.setTop (mkF m 15 #[.val (.ref o0), .val (.int i1)] [(.ref o0), (.ref w4)])) _
  refine st7 _ ?_
  show Steps p.tables e below (T7.setTop (mkF m 18 #[.val (.ref o0), .val (.int i1)] [(.ref w6), (.ref w4)])) _
  refine XS.iloadN X7.here hx rfl (hb hby d4_18) rfl ?_
  show Steps p.tables e below (T7.setTop (mkF m 19 #[.val (.ref o0), .val (.int i1)] [(.int i1), (.ref w6), (.ref w4)])) _
  refine X7.iaload hx (j := i1) (v := (.int w8)) (by rw [e7]; exact Ar_w6.1) (State.isArrayOf_alike hZ.alike Ar_w6.2.1) Ar_w6.2.2 hin19 hat19 (g := (mkF m 19 #[.val (.ref o0), .val (.int i1)] [(.int i1), (.ref w6), (.ref w4)])) rfl rfl (hb hby d4_19) _ ?_
  show Steps p.tables e below (T7.setTop (mkF m 20 #[.val (.ref o0), .val (.int i1)] [(.int w8), (.ref w4)])) _
  refine XS.lconst X7.here hx rfl (hb hby d4_20) ?_
  show Steps p.tables e below (T7.setTop (mkF m 21 #[.val (.ref o0), .val (.int i1)] [(.long (0 : Int64)), (.int w8), (.ref w4)])) _
  refine st9 _ ?_
  show Steps p.tables e below (T9.setTop (mkF m 22 #[.val (.ref o0), .val (.int i1)] [])) _
  refine XS.iinc X9.here hx rfl (hb hby d4_22) rfl (l' := #[.val (.ref o0), .val (.int (i1 + (1 : Int32)))]) rfl ?_
  show Steps p.tables e below (T9.setTop (mkF m 25 #[.val (.ref o0), .val (.int (i1 + (1 : Int32)))] [])) _
  refine XS.goto X9.here hx rfl (pc0 := 25) (pc' := 2) rfl (hb hby d4_25) (by decide) (by decide) ?_
  exact kt
theorem d4_28 : decode prog_8_method_6_code 28 = .ok (.aload_n 0, 1) := by decide +kernel
theorem d4_29 : decode prog_8_method_6_code 29 = .ok (.iconst 0, 1) := by decide +kernel
theorem d4_30 : decode prog_8_method_6_code 30 = .ok (.putfield 17, 3) := by decide +kernel
set_option maxRecDepth 65536 in
set_option maxHeartbeats 40000000 in
theorem tn4_28_33 {p : Program} {l : Launch} {e : Env} {R : Room} {s : State} {m : MethodId} {args : Array Value} {below : List Frame} {meth : Method} {c : Code} {T0 : State} {locs : List Loc} {cells slots : Nat} {Z : State} {a0 : Array Value} {h0 : Heap} {n0 : Nat} (o0 : Addr) (s1 : Slot) (u_size_o0 : Value)
    (X0 : Stand p l e R s m args below meth c T0 locs cells slots) (hx : p.tables.exec = Jvm.exec) (hZ : Z.Warmed39 s.vm) (hw : ∀ d ∈ tables_1, d.before a0 Z = true) (hby : c.code = prog_8_method_6_code) (hml : c.maxLocals = 2) (hown : s.vm.findClass "com/example/upweight/upweight/HeldTerms" = some m.cls) (e0 : T0.heap = h0) (N0 : Fr n0 locs) (Z0 : n0 ≤ h0.size) (E_o0 : Exa Z h0 o0 "com/example/upweight/upweight/HeldTerms") (F_size_o0 : Fld Z h0 o0 "com/example/upweight/upweight/HeldTerms" "size" "I" u_size_o0) (g_o0 : n0 ≤ o0) :
    ∃ (T' : State) (h' : Heap) (locs' : List Loc), Stand p l e R s m args below meth c T' locs' cells slots ∧ T'.heap = h' ∧ Fr n0 locs' ∧ n0 ≤ h'.size ∧ (Keep h0 h' [o0] ∧ Fld Z h' o0 "com/example/upweight/upweight/HeldTerms" "size" "I" (.int (0 : Int32)) ∧ Exa Z h' o0 "com/example/upweight/upweight/HeldTerms" ∧ ∃ W, Wr h0 h' o0 (Jvm.RoadKit.slotOf Z "com/example/upweight/upweight/HeldTerms" "size" "I") W) ∧
      ∀ target, Steps p.tables e below (T'.setTop (mkF m 33 #[.val (.ref o0), s1] [])) target → Steps p.tables e below (T0.setTop (mkF m 28 #[.val (.ref o0), s1] [])) target := by
  obtain ⟨T2, h2, X2, e2, W2, st2⟩ := putF X0 hx hZ hown (host := "") (Or.inl (hw _ (List.mem_of_getElem? (i := 25) rfl))) Via.refl e0 F_size_o0 E_o0 (Or.inl (hw _ (List.mem_of_getElem? (i := 26) rfl))) (hw _ (List.mem_of_getElem? (i := 6) rfl)) (ty := .int) (by decide) rfl rfl (g := (mkF m 30 #[.val (.ref o0), s1] [(.int (0 : Int32)), (.ref o0)])) rfl rfl (hb hby d4_30)
  have Fw2 := F_size_o0.same W2
  have K2 : Keep h0 h2 [o0] := (Keep.refl h0 [o0]).wr W2 (Or.inl (List.mem_of_getElem? (i := 0) rfl))
  have N2 := Fr.snoc X2 N0 g_o0
  refine ⟨T2, _, _, X2, e2, N2, (Nat.le_trans Z0 K2.1), ⟨K2, Fw2, E_o0.wr W2, _, W2⟩, fun target kt => ?_⟩
  show Steps p.tables e below (T0.setTop (mkF m 28 #[.val (.ref o0), s1] [])) _
  refine XS.aloadN X0.here hx rfl (hb hby d4_28) rfl rfl ?_
  show Steps p.tables e below (T0.setTop (mkF m 29 #[.val (.ref o0), s1] [(.ref o0)])) _
  refine XS.iconst X0.here hx rfl (hb hby d4_29) ?_
  show Steps p.tables e below (T0.setTop (mkF m 30 #[.val (.ref o0), s1] [(.int (0 : Int32)), (.ref o0)])) _
  refine st2 _ ?_
  exact kt

set_option maxRecDepth 65536 in
set_option maxHeartbeats 40000000 in
theorem loop4 {p : Program} {l : Launch} {e : Env} {R : Room} {s : State} {m : MethodId} {args : Array Value} {below : List Frame} {meth : Method} {c : Code} {cells slots : Nat} {Z : State} {a0 : Array Value} {n0 : Nat} (a ca pa : Addr) (n : Nat) (hn : n ≤ 4) (f : Nat → Nat) (g : Nat → Int64) (hf : ∀ j, f j < 4) (nac : a ≠ ca) (npc : pa ≠ ca) (gc : n0 ≤ ca) (hx : p.tables.exec = Jvm.exec) (hZ : Z.Warmed39 s.vm) (hw : ∀ d ∈ tables_1, d.before a0 Z = true) (hby : c.code = prog_8_method_6_code) (hml : c.maxLocals = 2) (hown : s.vm.findClass "com/example/upweight/upweight/HeldTerms" = some m.cls) :
    ∀ (r i : Nat) (hi : i + r = n) (T0 : State) (h0 : Heap) (locs : List Loc) (X0 : Stand p l e R s m args below meth c T0 locs cells slots) (e0 : T0.heap = h0) (N0 : Fr n0 locs) (Z0 : n0 ≤ h0.size) (Fc : Fld Z h0 a "com/example/upweight/upweight/HeldTerms" "counts" "[J" (.ref ca)) (Fp : Fld Z h0 a "com/example/upweight/upweight/HeldTerms" "places" "[I" (.ref pa)) (Fs : Fld Z h0 a "com/example/upweight/upweight/HeldTerms" "size" "I" (.int (Int32.ofNat n))) (Vp : own_AF Z h0 pa .int 4 (fun j => .int (Int32.ofNat (f j)))) (Vc : own_AF Z h0 ca .long 4 (fun j => .long (own_clr f i g j))),
    ∃ (T' : State) (h' : Heap) (locs' : List Loc), Stand p l e R s m args below meth c T' locs' cells slots ∧ T'.heap = h' ∧ Fr n0 locs' ∧ n0 ≤ h'.size ∧ Keep h0 h' [ca] ∧ own_AF Z h' ca .long 4 (fun j => .long (own_clr f n g j)) ∧
      ∀ target, Steps p.tables e below (T'.setTop (mkF m 28 #[.val (.ref a), .val (.int (Int32.ofNat n))] [])) target → Steps p.tables e below (T0.setTop (mkF m 2 #[.val (.ref a), .val (.int (Int32.ofNat i))] [])) target := by
  intro r
  induction r with
  | zero =>
    intro i hi T0 h0 locs X0 e0 N0 Z0 Fc Fp Fs Vp Vc
    obtain rfl : i = n := by omega
    obtain ⟨T1, X1, e1, st1⟩ := tn4_z a (Int32.ofNat i) (Int32.ofNat i) X0 hx hZ hw hby hml hown e0 Fs (by rw [own_ltn (by omega) (by omega)]; omega)
    exact ⟨T1, h0, locs, X1, e1, N0, Z0, Keep.refl _ _, Vc, st1⟩
  | succ r ih =>
    intro i hi T0 h0 locs X0 e0 N0 Z0 Fc Fp Fs Vp Vc
    obtain ⟨-, clp, Arp, Sp, Hp, -⟩ := id Vp
    obtain ⟨-, clc, Arc, Sc, Hc, -⟩ := id Vc
    have fi := hf i
    obtain ⟨T1, h1, l1, X1, e1, N1, Z1, ⟨K1, W1⟩, st1⟩ := tn4_2_2 a (Int32.ofNat i) (Int32.ofNat n) ca pa (Int32.ofNat (f i)) clp clc X0 hx hZ hw hby hml hown e0 N0 Z0 Fs Fc Fp Arp (own_inb Sp (by omega) (by decide)) (by rw [own_nc (by omega)]; exact Hp i (by omega)) Arc (own_inb Sc fi (by decide)) gc ((own_ltn (by omega) (by omega)).mpr (by omega))
    rw [own_nc (by omega)] at W1
    obtain ⟨T2, h2, l2, X2, e2, N2, Z2, K2, V2, st2⟩ := ih (i + 1) (by omega) T1 h1 l1 X1 e1 N1 Z1 (Fc.other W1 (Or.inl nac)) (Fp.other W1 (Or.inl nac)) (Fs.other W1 (Or.inl nac)) (Vp.other W1 npc) (own_cf Vc W1 fi)
    refine ⟨T2, h2, l2, X2, e2, N2, Z2, K1.trans K2 (allS (Or.inl (List.mem_singleton.mpr rfl)) all0), V2, fun target kt => st1 target ?_⟩
    rw [own_add1]; exact st2 target kt
theorem d4_0 : decode prog_8_method_6_code 0 = .ok (.iconst 0, 1) := by decide +kernel
theorem d4_1 : decode prog_8_method_6_code 1 = .ok (.istore_n 1, 1) := by decide +kernel
theorem d4_33 : decode prog_8_method_6_code 33 = .ok (.return_, 1) := by decide +kernel
theorem pn_4 : plainName "com/example/upweight/upweight/HeldTerms" = true := by first | (simp [plainName, overriddenIn]; done) | decide +kernel
theorem ef_4 (m : MethodId) (x0 : Addr) : entryFrame m #[(.ref x0)] 2 = mkF m 0 #[.val (.ref x0), .unset] [] := by first | (simp [entryFrame, mkF, argsToLocals, Value.category]; done) | rfl

def Q4 (Z : State) (n0 : Nat) (a ca pa : Addr) (n : Nat) (f : Nat → Nat) (g : Nat → Int64) (h0 : Heap) (v : Option Value) (h : Heap) (L : List Loc) : Prop := v = none ∧ Fr n0 L ∧ Keep h0 h [a, ca] ∧ own_HT Z n0 h a ca pa 0 f (own_clr f n g)
set_option maxRecDepth 65536 in
set_option maxHeartbeats 40000000 in
theorem rm4 (l : Launch) (Z : State) (a0 : Array Value) (hw : ∀ d ∈ tables_1, d.before a0 Z = true) (ws : List Jvm.Cond) (a1 ca pa : Addr) (n : Nat) (f : Nat → Nat) (g : Nat → Int64) (h0 : Heap) (n0 : Nat) (Z0 : n0 ≤ h0.size) (HT : own_HT Z n0 h0 a1 ca pa n f g) (hn : n ≤ 4) :
    MetFree l (⟨"com/example/upweight/upweight/HeldTerms", "clear", "()V"⟩ : MethodName) (head1 (Jvm.Cond.code (⟨"com/example/upweight/upweight/HeldTerms", "clear", "()V"⟩ : MethodName) prog_8_method_6_code 2 none :: ws) ({ frames := 0, cells := 0, slots := 0, locals := 0 } : Room)) (fun a U => a = #[(.ref a1)] ∧ Z.Warmed39 U.vm ∧ U.heap = h0) (fun _ _ _ _ _ => True) (fun _ U o U' => ∃ v L, o = .returned v ∧ Q4 Z n0 a1 ca pa n f g h0 v U'.heap L ∧ FrameEnd U o U' L ({ frames := 0, cells := 0, slots := 0, locals := 0 } : Room).cells ({ frames := 0, cells := 0, slots := 0, locals := 0 } : Room).slots) := by
  refine MetFree.of_bodySF (plainFor_of_name pn_4) hisR ?_
  intro p e s m args below meth c s₁ Bd hml0 hP hK
  obtain ⟨rfl, hZ, hh⟩ := hP
  have hx := Bd.exec
  have hby := Bd.bytes
  have hml : c.maxLocals = 2 := hml0
  have hown : s.vm.findClass "com/example/upweight/upweight/HeldTerms" = some m.cls := findClass_of_methodNamed Bd.named
  have X0 : Stand p l e ({ frames := 0, cells := 0, slots := 0, locals := 0 } : Room) s m #[(.ref a1)] below meth c s₁ [] 0 0 := Stand.of_body Bd
  have e0 : s₁.heap = h0 := by rw [← hh, Bd.state]; rfl
  have N0 := Fr.nil n0
  obtain ⟨E, Fc, Fp, Fs, Vp, Vc, hf, nap, nac, npc, ga, gp, gc⟩ := HT
  have pre0 : ∀ t, Steps p.tables e below (s₁.setTop (mkF m 0 #[.val (.ref a1), .unset] [])) t → Steps p.tables e below (s₁.setTop (entryFrame m #[(.ref a1)] 2)) t := fun t k => castTop (ef_4 m a1) k
  obtain ⟨T2, h2, l2, X2, e2, N2, Z2, K2, Vc2, st2⟩ := loop4 a1 ca pa n hn f g hf nac npc gc hx hZ hw hby hml hown n 0 (by omega) s₁ h0 [] X0 e0 N0 Z0 Fc Fp Fs Vp Vc
  have Fp2 := Fp.keep K2 (ninS nac nin0)
  have Fc2 := Fc.keep K2 (ninS nac nin0)
  have Fs2 := Fs.keep K2 (ninS nac nin0)
  have E2 := E.keep K2
  have Vp2 := Vp.keep K2 (ninS npc nin0)
  obtain ⟨T3, h3, l3, X3, e3, N3, Z3, ⟨K3, F3, E3, wv, W3⟩, st3⟩ := tn4_28_33 a1 (.val (.int (Int32.ofNat n))) _ X2 hx hZ hw hby hml hown e2 N2 Z2 E2 Fs2 ga
  obtain ⟨fs, hr, hrun, hended, hW, hsame⟩ := X3.leave (v := none) (fun _ => rfl)
  refine ⟨_, _, pre0 _ ?_, hrun, hended, _, _, rfl, ?_, ⟨_, rfl⟩, hW, hsame.mono (by decide) (by decide)⟩
  · show Steps p.tables e below (s₁.setTop (mkF m 0 #[.val (.ref a1), .unset] [])) _
    refine XS.iconst X0.here hx rfl (hb hby d4_0) ?_
    show Steps p.tables e below (s₁.setTop (mkF m 1 #[.val (.ref a1), .unset] [(.int (0 : Int32))])) _
    refine XS.istoreN X0.here hx rfl (hb hby d4_1) rfl (l' := #[.val (.ref a1), .val (.int (0 : Int32))]) rfl ?_
    exact st2 _ (st3 _ (X3.returnOut hx Bd.returns (hb hby d4_33) hr))
  · show Q4 Z n0 a1 ca pa n f g h0 _ T3.heap _
    rw [e3]
    refine ⟨rfl, N3, ?_, E3, Fc2.other W3 (Or.inr (slot_ne (Or.inr (hw _ (List.mem_of_getElem? (i := 16) rfl))) (Or.inl (hw _ (List.mem_of_getElem? (i := 26) rfl))) (by decide) (t := (.array .long)) (t' := .int) (by decide) (by decide))), Fp2.other W3 (Or.inr (slot_ne (Or.inr (hw _ (List.mem_of_getElem? (i := 19) rfl))) (Or.inl (hw _ (List.mem_of_getElem? (i := 26) rfl))) (by decide) (t := (.array .int)) (t' := .int) (by decide) (by decide))), F3, Vp2.other W3 nap.symm, Vc2.other W3 nac.symm, hf, nap, nac, npc, ga, gp, gc⟩
    have k2 : Keep h0 h2 [a1, ca] := (Keep.refl h0 _).trans K2 (allS (Or.inl (List.mem_of_getElem? (i := 1) rfl)) all0)
    exact k2.trans K3 (allS (Or.inl (List.mem_of_getElem? (i := 0) rfl)) all0)
theorem d1_0 : decode method_3_code 0 = .ok (.lload_n 0, 1) := by decide +kernel
theorem d1_1 : decode method_3_code 1 = .ok (.ldc2_w 35, 3) := by decide +kernel
theorem d1_4 : decode method_3_code 4 = .ok (.land, 1) := by decide +kernel
theorem d1_5 : decode method_3_code 5 = .ok (.lstore_n 2, 1) := by decide +kernel
theorem d1_6 : decode method_3_code 6 = .ok (.lload_n 2, 1) := by decide +kernel
theorem d1_7 : decode method_3_code 7 = .ok (.lconst 0, 1) := by decide +kernel
theorem d1_8 : decode method_3_code 8 = .ok (.lcmp, 1) := by decide +kernel
theorem d1_9 : decode method_3_code 9 = .ok (.ifCond .ne 7, 3) := by decide +kernel
theorem d1_12 : decode method_3_code 12 = .ok (.lconst 1, 1) := by decide +kernel
theorem d1_13 : decode method_3_code 13 = .ok (.goto 4, 3) := by decide +kernel
theorem d1_17 : decode method_3_code 17 = .ok (.lreturn, 1) := by decide +kernel
theorem pn_1 : plainName "com/example/upweight/upweight/HeldTermsClearPinLaw" = true := by first | (simp [plainName, overriddenIn]; done) | decide +kernel
theorem ef_1 (m : MethodId) (x0 : Int64) : entryFrame m #[(.long x0)] 4 = mkF m 0 #[.val (.long x0), .second, .unset, .unset] [] := by first | (simp [entryFrame, mkF, argsToLocals, Value.category]; done) | rfl
def Q1a (Z : State) (q1 : Int64) (h0 : Heap) (n0 : Nat) (v : Option Value) (h : Heap) (L : List Loc) : Prop := v = some (.long (1 : Int64)) ∧ Fr n0 L ∧ h = h0
set_option maxRecDepth 65536 in
set_option maxHeartbeats 40000000 in
theorem rm1a (l : Launch) (Z : State) (a0 : Array Value) (hw : ∀ d ∈ tables_1, d.before a0 Z = true) (ws : List Jvm.Cond) (q1 : Int64) (h0 : Heap) (n0 : Nat) (Z0 : n0 ≤ h0.size) (hc9 : (lcmpW (q1 &&& (9223372036854775807 : Int64)) (0 : Int64)) = (0 : Int32)) :
    MetFree l (⟨"com/example/upweight/upweight/HeldTermsClearPinLaw", "positive", "(J)J"⟩ : MethodName) (head1 (Jvm.Cond.code (⟨"com/example/upweight/upweight/HeldTermsClearPinLaw", "positive", "(J)J"⟩ : MethodName) method_3_code 4 (some .long) :: ws) ({ frames := 0, cells := 0, slots := 0, locals := 0 } : Room)) (fun a U => a = #[(.long q1)] ∧ Z.Warmed39 U.vm ∧ U.heap = h0) (fun _ _ _ _ _ => True) (fun _ U o U' => ∃ v L, o = .returned v ∧ Q1a Z q1 h0 n0 v U'.heap L ∧ FrameEnd U o U' L ({ frames := 0, cells := 0, slots := 0, locals := 0 } : Room).cells ({ frames := 0, cells := 0, slots := 0, locals := 0 } : Room).slots) := by
  refine MetFree.of_bodySF (plainFor_of_name pn_1) hisR ?_
  intro p e s m args below meth c s₁ Bd hml0 hP hK
  obtain ⟨rfl, hZ, hh⟩ := hP
  have hx := Bd.exec
  have hby := Bd.bytes
  have hml : c.maxLocals = 4 := hml0
  have hown : s.vm.findClass "com/example/upweight/upweight/HeldTermsClearPinLaw" = some m.cls := findClass_of_methodNamed Bd.named
  have hnm := (name_of_methodNamed Bd.named Bd.method).1
  have X0 : Stand p l e ({ frames := 0, cells := 0, slots := 0, locals := 0 } : Room) s m #[(.long q1)] below meth c s₁ [] 0 0 := Stand.of_body Bd
  have e0 : s₁.heap = h0 := by rw [← hh, Bd.state]; rfl
  have N0 := Fr.nil n0
  have pre0 : ∀ t, Steps p.tables e below (s₁.setTop (mkF m 0 #[.val (.long q1), .second, .unset, .unset] [])) t → Steps p.tables e below (s₁.setTop (entryFrame m #[(.long q1)] 4)) t := fun t k => castTop (ef_1 m q1) k

  obtain ⟨fs, hr, hrun, hended, hW, hsame⟩ := X0.leave (v := some (.long (1 : Int64))) (fun h => by rw [Bd.returns] at h; cases h)
  refine ⟨_, _, pre0 _ ?_, hrun, hended, _, _, rfl, ?_, ⟨_, rfl⟩, hW, hsame.mono (by decide) (by decide)⟩
  · show Steps p.tables e below (s₁.setTop (mkF m 0 #[.val (.long q1), .second, .unset, .unset] [])) _
    refine XS.lloadN X0.here hx rfl (hb hby d1_0) rfl ?_
    show Steps p.tables e below (s₁.setTop (mkF m 1 #[.val (.long q1), .second, .unset, .unset] [(.long q1)])) _
    refine X0.ldc2Long hx hown (mvT hZ (hw _ (List.mem_of_getElem? (i := 4) rfl))) (g := (mkF m 1 #[.val (.long q1), .second, .unset, .unset] [(.long q1)])) rfl (hb hby d1_1) _ ?_
    show Steps p.tables e below (s₁.setTop (mkF m 4 #[.val (.long q1), .second, .unset, .unset] [(.long (9223372036854775807 : Int64)), (.long q1)])) _
    refine XS.land X0.here hx rfl (hb hby d1_4) rfl ?_
    show Steps p.tables e below (s₁.setTop (mkF m 5 #[.val (.long q1), .second, .unset, .unset] [(.long (q1 &&& (9223372036854775807 : Int64)))])) _
    refine XS.lstoreN X0.here hx rfl (hb hby d1_5) rfl (l' := #[.val (.long q1), .second, .val (.long (q1 &&& (9223372036854775807 : Int64))), .second]) rfl ?_
    show Steps p.tables e below (s₁.setTop (mkF m 6 #[.val (.long q1), .second, .val (.long (q1 &&& (9223372036854775807 : Int64))), .second] [])) _
    refine XS.lloadN X0.here hx rfl (hb hby d1_6) rfl ?_
    show Steps p.tables e below (s₁.setTop (mkF m 7 #[.val (.long q1), .second, .val (.long (q1 &&& (9223372036854775807 : Int64))), .second] [(.long (q1 &&& (9223372036854775807 : Int64)))])) _
    refine XS.lconst X0.here hx rfl (hb hby d1_7) ?_
    show Steps p.tables e below (s₁.setTop (mkF m 8 #[.val (.long q1), .second, .val (.long (q1 &&& (9223372036854775807 : Int64))), .second] [(.long (0 : Int64)), (.long (q1 &&& (9223372036854775807 : Int64)))])) _
    refine XS.lcmp X0.here hx rfl (hb hby d1_8) rfl ?_
    show Steps p.tables e below (s₁.setTop (mkF m 9 #[.val (.long q1), .second, .val (.long (q1 &&& (9223372036854775807 : Int64))), .second] [(.int (lcmpW (q1 &&& (9223372036854775807 : Int64)) (0 : Int64)))])) _
    refine XS.ifNo X0.here hx rfl (hb hby d1_9) rfl ((if0 _ _).trans (teq hc9).2) ?_
    show Steps p.tables e below (s₁.setTop (mkF m 12 #[.val (.long q1), .second, .val (.long (q1 &&& (9223372036854775807 : Int64))), .second] [])) _
    refine XS.lconst X0.here hx rfl (hb hby d1_12) ?_
    show Steps p.tables e below (s₁.setTop (mkF m 13 #[.val (.long q1), .second, .val (.long (q1 &&& (9223372036854775807 : Int64))), .second] [(.long (1 : Int64))])) _
    refine XS.goto X0.here hx rfl (pc0 := 13) (pc' := 17) rfl (hb hby d1_13) (by decide) (by decide) ?_
    show Steps p.tables e below (s₁.setTop (mkF m 17 #[.val (.long q1), .second, .val (.long (q1 &&& (9223372036854775807 : Int64))), .second] [(.long (1 : Int64))])) _
    exact own_retL X0 hx Bd.returns (hb hby d1_17) hr
  · show Q1a Z q1 h0 n0 _ s₁.heap _
    rw [e0]
    exact ⟨rfl, N0, rfl⟩
theorem d1_16 : decode method_3_code 16 = .ok (.lload_n 2, 1) := by decide +kernel
def Q1b (Z : State) (q1 : Int64) (h0 : Heap) (n0 : Nat) (v : Option Value) (h : Heap) (L : List Loc) : Prop := v = some (.long (q1 &&& (9223372036854775807 : Int64))) ∧ Fr n0 L ∧ h = h0
set_option maxRecDepth 65536 in
set_option maxHeartbeats 40000000 in
theorem rm1b (l : Launch) (Z : State) (a0 : Array Value) (hw : ∀ d ∈ tables_1, d.before a0 Z = true) (ws : List Jvm.Cond) (q1 : Int64) (h0 : Heap) (n0 : Nat) (Z0 : n0 ≤ h0.size) (hc9 : ¬ ((lcmpW (q1 &&& (9223372036854775807 : Int64)) (0 : Int64)) = (0 : Int32))) :
    MetFree l (⟨"com/example/upweight/upweight/HeldTermsClearPinLaw", "positive", "(J)J"⟩ : MethodName) (head1 (Jvm.Cond.code (⟨"com/example/upweight/upweight/HeldTermsClearPinLaw", "positive", "(J)J"⟩ : MethodName) method_3_code 4 (some .long) :: ws) ({ frames := 0, cells := 0, slots := 0, locals := 0 } : Room)) (fun a U => a = #[(.long q1)] ∧ Z.Warmed39 U.vm ∧ U.heap = h0) (fun _ _ _ _ _ => True) (fun _ U o U' => ∃ v L, o = .returned v ∧ Q1b Z q1 h0 n0 v U'.heap L ∧ FrameEnd U o U' L ({ frames := 0, cells := 0, slots := 0, locals := 0 } : Room).cells ({ frames := 0, cells := 0, slots := 0, locals := 0 } : Room).slots) := by
  refine MetFree.of_bodySF (plainFor_of_name pn_1) hisR ?_
  intro p e s m args below meth c s₁ Bd hml0 hP hK
  obtain ⟨rfl, hZ, hh⟩ := hP
  have hx := Bd.exec
  have hby := Bd.bytes
  have hml : c.maxLocals = 4 := hml0
  have hown : s.vm.findClass "com/example/upweight/upweight/HeldTermsClearPinLaw" = some m.cls := findClass_of_methodNamed Bd.named
  have hnm := (name_of_methodNamed Bd.named Bd.method).1
  have X0 : Stand p l e ({ frames := 0, cells := 0, slots := 0, locals := 0 } : Room) s m #[(.long q1)] below meth c s₁ [] 0 0 := Stand.of_body Bd
  have e0 : s₁.heap = h0 := by rw [← hh, Bd.state]; rfl
  have N0 := Fr.nil n0
  have pre0 : ∀ t, Steps p.tables e below (s₁.setTop (mkF m 0 #[.val (.long q1), .second, .unset, .unset] [])) t → Steps p.tables e below (s₁.setTop (entryFrame m #[(.long q1)] 4)) t := fun t k => castTop (ef_1 m q1) k

  obtain ⟨fs, hr, hrun, hended, hW, hsame⟩ := X0.leave (v := some (.long (q1 &&& (9223372036854775807 : Int64)))) (fun h => by rw [Bd.returns] at h; cases h)
  refine ⟨_, _, pre0 _ ?_, hrun, hended, _, _, rfl, ?_, ⟨_, rfl⟩, hW, hsame.mono (by decide) (by decide)⟩
  · show Steps p.tables e below (s₁.setTop (mkF m 0 #[.val (.long q1), .second, .unset, .unset] [])) _
    refine XS.lloadN X0.here hx rfl (hb hby d1_0) rfl ?_
    show Steps p.tables e below (s₁.setTop (mkF m 1 #[.val (.long q1), .second, .unset, .unset] [(.long q1)])) _
    refine X0.ldc2Long hx hown (mvT hZ (hw _ (List.mem_of_getElem? (i := 4) rfl))) (g := (mkF m 1 #[.val (.long q1), .second, .unset, .unset] [(.long q1)])) rfl (hb hby d1_1) _ ?_
    show Steps p.tables e below (s₁.setTop (mkF m 4 #[.val (.long q1), .second, .unset, .unset] [(.long (9223372036854775807 : Int64)), (.long q1)])) _
    refine XS.land X0.here hx rfl (hb hby d1_4) rfl ?_
    show Steps p.tables e below (s₁.setTop (mkF m 5 #[.val (.long q1), .second, .unset, .unset] [(.long (q1 &&& (9223372036854775807 : Int64)))])) _
    refine XS.lstoreN X0.here hx rfl (hb hby d1_5) rfl (l' := #[.val (.long q1), .second, .val (.long (q1 &&& (9223372036854775807 : Int64))), .second]) rfl ?_
    show Steps p.tables e below (s₁.setTop (mkF m 6 #[.val (.long q1), .second, .val (.long (q1 &&& (9223372036854775807 : Int64))), .second] [])) _
    refine XS.lloadN X0.here hx rfl (hb hby d1_6) rfl ?_
    show Steps p.tables e below (s₁.setTop (mkF m 7 #[.val (.long q1), .second, .val (.long (q1 &&& (9223372036854775807 : Int64))), .second] [(.long (q1 &&& (9223372036854775807 : Int64)))])) _
    refine XS.lconst X0.here hx rfl (hb hby d1_7) ?_
    show Steps p.tables e below (s₁.setTop (mkF m 8 #[.val (.long q1), .second, .val (.long (q1 &&& (9223372036854775807 : Int64))), .second] [(.long (0 : Int64)), (.long (q1 &&& (9223372036854775807 : Int64)))])) _
    refine XS.lcmp X0.here hx rfl (hb hby d1_8) rfl ?_
    show Steps p.tables e below (s₁.setTop (mkF m 9 #[.val (.long q1), .second, .val (.long (q1 &&& (9223372036854775807 : Int64))), .second] [(.int (lcmpW (q1 &&& (9223372036854775807 : Int64)) (0 : Int64)))])) _
    refine XS.ifYes X0.here hx rfl (pc0 := 9) (pc' := 16) rfl (hb hby d1_9) rfl ((if0 _ _).trans (feq hc9).2) (by decide) (by decide) ?_
    show Steps p.tables e below (s₁.setTop (mkF m 16 #[.val (.long q1), .second, .val (.long (q1 &&& (9223372036854775807 : Int64))), .second] [])) _
    refine XS.lloadN X0.here hx rfl (hb hby d1_16) rfl ?_
    show Steps p.tables e below (s₁.setTop (mkF m 17 #[.val (.long q1), .second, .val (.long (q1 &&& (9223372036854775807 : Int64))), .second] [(.long (q1 &&& (9223372036854775807 : Int64)))])) _
    exact own_retL X0 hx Bd.returns (hb hby d1_17) hr
  · show Q1b Z q1 h0 n0 _ s₁.heap _
    rw [e0]
    exact ⟨rfl, N0, rfl⟩
def own_f1 (q1 : Int64) : Int64 := (if (lcmpW (q1 &&& (9223372036854775807 : Int64)) (0 : Int64)) = (0 : Int32) then (1 : Int64) else (q1 &&& (9223372036854775807 : Int64)))
theorem rm1 (l : Launch) (Z : State) (a0 : Array Value) (hw : ∀ d ∈ tables_1, d.before a0 Z = true) (ws : List Jvm.Cond) (q1 : Int64) (h0 : Heap) (n0 : Nat) (Z0 : n0 ≤ h0.size) :
    MetFree l (⟨"com/example/upweight/upweight/HeldTermsClearPinLaw", "positive", "(J)J"⟩ : MethodName) (head1 (Jvm.Cond.code (⟨"com/example/upweight/upweight/HeldTermsClearPinLaw", "positive", "(J)J"⟩ : MethodName) method_3_code 4 (some .long) :: ws) ({ frames := 0, cells := 0, slots := 0, locals := 0 } : Room)) (fun a U => a = #[(.long q1)] ∧ Z.Warmed39 U.vm ∧ U.heap = h0) (fun _ _ _ _ _ => True) (fun _ U o U' => ∃ v L, o = .returned v ∧ own_Qr h0 n0 (.long (own_f1 q1)) v U'.heap L ∧ FrameEnd U o U' L ({ frames := 0, cells := 0, slots := 0, locals := 0 } : Room).cells ({ frames := 0, cells := 0, slots := 0, locals := 0 } : Room).slots) := by
  unfold own_f1
  by_cases hc9 : (lcmpW (q1 &&& (9223372036854775807 : Int64)) (0 : Int64)) = (0 : Int32)
  · rw [if_pos hc9]
    exact rm1a l Z a0 hw ws q1 h0 n0 Z0 hc9
  · rw [if_neg hc9]
    exact rm1b l Z a0 hw ws q1 h0 n0 Z0 hc9

def own_INV (k n : Nat) (f : Nat → Nat) (g : Nat → Int64) : Prop := n ≤ k ∧ ∀ i, g i ≠ 0 → ∃ j, j < n ∧ f j = i
theorem own_INV.mono {k n : Nat} {f : Nat → Nat} {g : Nat → Int64} (h : own_INV k n f g) : own_INV (k + 1) n f g := ⟨Nat.le_succ_of_le h.1, h.2⟩
theorem own_sh_has (p N : Nat) : ∀ (k : Nat) (f : Nat → Nat) (hk : k ≤ N) (j : Nat), j ≠ k → j ≤ N → ∃ j', j' ≤ N ∧ j' ≠ (own_sh p k f).1 ∧ (own_sh p k f).2 j' = f j
  | 0, f, hk, j, h, hj => ⟨j, hj, h, rfl⟩
  | k + 1, f, hk, j, h, hj => by
    simp only [own_sh]
    split
    · by_cases q : j = k
      · obtain ⟨j', h1, h2, h3⟩ := own_sh_has p N k (own_upd f (k + 1) (f k)) (by omega) (k + 1) (by omega) hk
        refine ⟨j', h1, h2, h3.trans ?_⟩
        simp [own_upd, q]
      · obtain ⟨j', h1, h2, h3⟩ := own_sh_has p N k (own_upd f (k + 1) (f k)) (by omega) j q hj
        refine ⟨j', h1, h2, h3.trans ?_⟩
        simp [own_upd, h]
    · exact ⟨j, hj, h, rfl⟩
theorem own_INV.add {k n : Nat} {f : Nat → Nat} {g : Nat → Int64} (h : own_INV k n f g) (p : Nat) (c : Int64) : own_INV (k + 1) (n + 1) (own_ins p n f) (own_upd g p c) := by
  refine ⟨by have := h.1; omega, fun i hi => ?_⟩
  by_cases q : i = p
  · refine ⟨(own_sh p n f).1, by have := own_sh_le p n f; omega, ?_⟩
    simp [own_ins, own_upd, q]
  · have hg : g i ≠ 0 := by simpa [own_upd, q] using hi
    obtain ⟨j, hj, rfl⟩ := h.2 i hg
    obtain ⟨j', h1, h2, h3⟩ := own_sh_has p n n f (Nat.le_refl _) j (by omega) (by omega)
    exact ⟨j', by omega, by simp [own_ins, own_upd, h2, h3]⟩
theorem own_clr_z (f : Nat → Nat) (g : Nat → Int64) (i : Nat) : ∀ n, (g i ≠ 0 → ∃ j, j < n ∧ f j = i) → own_clr f n g i = 0
  | 0, h => by
    by_cases q : g i = 0
    · exact q
    · obtain ⟨j, hj, -⟩ := h q; omega
  | n + 1, h => by
    simp only [own_clr, own_upd]
    by_cases q : i = f n
    · rw [if_pos q]
    · rw [if_neg q]
      refine own_clr_z f g i n fun hg => ?_
      obtain ⟨j, hj, e⟩ := h hg
      refine ⟨j, ?_, e⟩
      have : j ≠ n := fun z => q (by rw [← z]; exact e.symm)
      omega
theorem own_cnt (l : Launch) (Z : State) (a0 : Array Value) (hw : ∀ d ∈ tables_1, d.before a0 Z = true) (ws : List Jvm.Cond) (a1 ca pa : Addr) (n : Nat) (f : Nat → Nat) (g : Nat → Int64) (i : Nat) (hi : i < 4) (h0 : Heap) (n0 : Nat) (Z0 : n0 ≤ h0.size) (HT : own_HT Z n0 h0 a1 ca pa n f g) :
    MetFree l (⟨"com/example/upweight/upweight/HeldTerms", "count", "(I)J"⟩ : MethodName) (head1 (Jvm.Cond.code (⟨"com/example/upweight/upweight/HeldTerms", "count", "(I)J"⟩ : MethodName) prog_8_method_4_code 2 (some .long) :: ws) ({ frames := 0, cells := 0, slots := 0, locals := 0 } : Room)) (fun a U => a = #[(.ref a1), (.int (Int32.ofNat i))] ∧ Z.Warmed39 U.vm ∧ U.heap = h0) (fun _ _ _ _ _ => True) (fun _ U o U' => ∃ v L, o = .returned v ∧ own_Qr h0 n0 (.long (g i)) v U'.heap L ∧ FrameEnd U o U' L ({ frames := 0, cells := 0, slots := 0, locals := 0 } : Room).cells ({ frames := 0, cells := 0, slots := 0, locals := 0 } : Room).slots) := by
  obtain ⟨-, clc, Arc, Sc, Hc, -⟩ := id HT.2.2.2.2.2.1
  exact rm6 l Z a0 hw ws a1 (Int32.ofNat i) ca (g i) clc h0 n0 Z0 HT.2.1 Arc (own_inb Sc hi (by decide)) (by rw [own_nc (by omega)]; exact Hc i hi)
theorem pd_0_0 : parseMethodDescriptor "(J)J" = some ⟨[.long], some .long⟩ := by decide +kernel
theorem pd_0_1 : parseMethodDescriptor "(I)V" = some ⟨[.int], none⟩ := by decide +kernel
theorem os0_4 {z0 : Value} {s1 : Slot} {z2 : Value} {z4 : Value} {s6 : Slot} {s7 : Slot} {s8 : Slot} {s9 : Slot} {s10 : Slot} {s11 : Slot} {v : Int32} (h : One s6) : storeLocals #[.val z0, s1, .val z2, .second, .val z4, .second, s6, s7, s8, s9, s10, s11] 6 (.int v) = some #[.val z0, s1, .val z2, .second, .val z4, .second, .val (.int v), s7, s8, s9, s10, s11] := by
  rcases h with rfl | ⟨w, rfl, hw⟩
  · rfl
  · cases w <;> first | rfl | (simp [Value.category] at hw)
theorem os0_27 {z0 : Value} {s1 : Slot} {z2 : Value} {z4 : Value} {z6 : Value} {z7 : Value} {z9 : Value} {s11 : Slot} {v : Addr} (h : One s11) : storeLocals #[.val z0, s1, .val z2, .second, .val z4, .second, .val z6, .val z7, .second, .val z9, .second, s11] 11 (.ref v) = some #[.val z0, s1, .val z2, .second, .val z4, .second, .val z6, .val z7, .second, .val z9, .second, .val (.ref v)] := by
  rcases h with rfl | ⟨w, rfl, hw⟩
  · rfl
  · cases w <;> first | rfl | (simp [Value.category] at hw)
set_option maxRecDepth 65536 in
set_option maxHeartbeats 40000000 in
theorem tn0_0_29 {p : Program} {l : Launch} {e : Env} {s : State} {m : MethodId} {args : Array Value} {below : List Frame} {meth : Method} {c : Code} {T0 : State} {locs : List Loc} {Z : State} {a0 : Array Value} {h0 : Heap} {n0 : Nat} (i0 : Int32) (s1 : Slot) (j2 : Int64) (j4 : Int64)
    (X0 : Stand p l e room_1 s m args below meth c T0 locs 0 0) (hx : p.tables.exec = Jvm.exec) (hZ : Z.Warmed39 s.vm) (hw : ∀ d ∈ tables_1, d.before a0 Z = true) (hby : c.code = code) (hml : c.maxLocals = 12) (hown : s.vm.findClass "com/example/upweight/upweight/HeldTermsClearPinLaw" = some m.cls) (e0 : T0.heap = h0) (N0 : Fr n0 locs) (Z0 : n0 ≤ h0.size) (hs6 : One .unset) (hs11 : One .unset) :
    ∃ (b7 : Addr) (T' : State) (h' : Heap) (locs' : List Loc), Stand p l e room_1 s m args below meth c T' locs' 3 11 ∧ T'.heap = h' ∧ Fr n0 locs' ∧ n0 ≤ h'.size ∧ (∃ ca pa, own_HT Z n0 h' b7 ca pa 0 (fun _ => 0) (fun _ => 0)) ∧
      ∀ target, Steps p.tables e below (T'.setTop (mkF m 29 #[.val (.int i0), s1, .val (.long j2), .second, .val (.long j4), .second, .val (.int (i0 &&& (15 : Int32))), .val (.long (own_f1 j2)), .second, .val (.long (own_f1 j4)), .second, .val (.ref b7)] [])) target → Steps p.tables e below (T0.setTop (mkF m 0 #[.val (.int i0), s1, .val (.long j2), .second, .val (.long j4), .second, .unset, .unset, .unset, .unset, .unset, .unset] [])) target := by
  obtain ⟨_, _, ⟨T5, L5, k5, n5⟩, -, X5, ⟨Lc5, hQ5, l5, y5, z5⟩, st5⟩ := Jvm.LawKit.callS X0 hx (y := (⟨"com/example/upweight/upweight/HeldTermsClearPinLaw", "positive", "(J)J"⟩ : MethodName)) hown (mvT hZ (hw _ (List.mem_of_getElem? (i := 0) rfl))) (mvT hZ (hw _ (List.mem_of_getElem? (i := 1) rfl))) (mvT hZ (hw _ (List.mem_of_getElem? (i := 2) rfl))) (mvT hZ (hw _ (List.mem_of_getElem? (i := 3) rfl))) (by decide) (backOf (W := 0) (rm1 l Z a0 hw [] j2 h0 n0 Z0) hZ (hw _ (List.mem_of_getElem? (i := 3) rfl)) (hw _ (List.mem_of_getElem? (i := 2) rfl)) (by decide) (by decide)) (g := (mkF m 7 #[.val (.int i0), s1, .val (.long j2), .second, .val (.long j4), .second, .val (.int (i0 &&& (15 : Int32))), .unset, .unset, .unset, .unset, .unset] [(.long j2)])) rfl (by rw [hml]; rfl) (argsL := [(.long j2)]) (rest := []) (lenOf pd_0_0 rfl) rfl (by show 2 * 0 + _ ≤ _; exact Nat.le_of_eq rfl) (hb hby at_7) (fun _ _ => ⟨rfl, e0, (Nat.le_of_ble_eq_true rfl), (Nat.le_of_ble_eq_true rfl)⟩)
  dsimp only [Pt.U, Pt.locs, Pt.cells, Pt.slots] at X5 l5 y5 z5 st5 hQ5
  subst l5 y5 z5
  obtain ⟨rfl, N5q, q5⟩ := hQ5
  have N5 := Fr.app N0 N5q
  obtain ⟨_, _, ⟨T6, L6, k6, n6⟩, -, X6, ⟨Lc6, hQ6, l6, y6, z6⟩, st6⟩ := Jvm.LawKit.callS X5 hx (y := (⟨"com/example/upweight/upweight/HeldTermsClearPinLaw", "positive", "(J)J"⟩ : MethodName)) hown (mvT hZ (hw _ (List.mem_of_getElem? (i := 0) rfl))) (mvT hZ (hw _ (List.mem_of_getElem? (i := 1) rfl))) (mvT hZ (hw _ (List.mem_of_getElem? (i := 2) rfl))) (mvT hZ (hw _ (List.mem_of_getElem? (i := 3) rfl))) (by decide) (backOf (W := 0) (rm1 l Z a0 hw [] j4 T5.heap n0 (by rw [q5]; exact Z0)) hZ (hw _ (List.mem_of_getElem? (i := 3) rfl)) (hw _ (List.mem_of_getElem? (i := 2) rfl)) (by decide) (by decide)) (g := (mkF m 14 #[.val (.int i0), s1, .val (.long j2), .second, .val (.long j4), .second, .val (.int (i0 &&& (15 : Int32))), .val (.long (own_f1 j2)), .second, .unset, .unset, .unset] [(.long j4)])) rfl (by rw [hml]; rfl) (argsL := [(.long j4)]) (rest := []) (lenOf pd_0_0 rfl) rfl (by show 2 * 0 + _ ≤ _; exact Nat.le_of_eq rfl) (hb hby at_14) (fun _ _ => ⟨rfl, rfl, (Nat.le_of_ble_eq_true rfl), (Nat.le_of_ble_eq_true rfl)⟩)
  dsimp only [Pt.U, Pt.locs, Pt.cells, Pt.slots] at X6 l6 y6 z6 st6 hQ6
  subst l6 y6 z6
  obtain ⟨rfl, N6q, q6⟩ := hQ6
  have K6 : Keep h0 T6.heap [] := by rw [q6, q5]; exact Keep.refl _ _
  have N6 := Fr.app N5 N6q
  obtain ⟨T7, h7, X7, e7, E7, A7, D7, -, st7⟩ := newO X6 hx hZ hown (hw _ (List.mem_of_getElem? (i := 5) rfl)) (hw _ (List.mem_of_getElem? (i := 6) rfl)) (hw _ (List.mem_of_getElem? (i := 7) rfl)) rfl (g := (mkF m 19 #[.val (.int i0), s1, .val (.long j2), .second, .val (.long j4), .second, .val (.int (i0 &&& (15 : Int32))), .val (.long (own_f1 j2)), .second, .val (.long (own_f1 j4)), .second, .unset] [])) rfl (hb hby at_19) (by decide) (by decide)
  obtain ⟨b7, g7⟩ : ∃ z, z = T6.heap.size := ⟨_, rfl⟩
  rw [← g7] at A7 D7 st7
  have F_counts_b7 : Fld Z h7 b7 "com/example/upweight/upweight/HeldTerms" "counts" "[J" .null := D7 (Or.inr (hw _ (List.mem_of_getElem? (i := 16) rfl))) (ty := (.array .long)) (by decide)
  have F_places_b7 : Fld Z h7 b7 "com/example/upweight/upweight/HeldTerms" "places" "[I" .null := D7 (Or.inr (hw _ (List.mem_of_getElem? (i := 19) rfl))) (ty := (.array .int)) (by decide)
  have F_size_b7 : Fld Z h7 b7 "com/example/upweight/upweight/HeldTerms" "size" "I" (.int (0 : Int32)) := D7 (Or.inl (hw _ (List.mem_of_getElem? (i := 26) rfl))) (ty := .int) (by decide)
  have E_b7 := A7
  have g_b7 : n0 ≤ b7 := Nat.le_trans Z0 (Nat.le_trans K6.1 (Nat.le_of_eq g7.symm))
  have sz_b7 : h0.size ≤ b7 := (Nat.le_trans K6.1 (Nat.le_of_eq g7.symm))
  have K7 : Keep h0 h7 [] := K6.ext E7
  obtain ⟨_, _, ⟨T8, L8, k8, n8⟩, -, X8, ⟨Lc8, hQ8, l8, y8, z8⟩, st8⟩ := X7.specialBack hx (y := (⟨"com/example/upweight/upweight/HeldTerms", "<init>", "(I)V"⟩ : MethodName)) rfl hown (mvT hZ (hw _ (List.mem_of_getElem? (i := 8) rfl))) (mvT hZ (hw _ (List.mem_of_getElem? (i := 9) rfl))) (mvT hZ (hw _ (List.mem_of_getElem? (i := 10) rfl))) (by decide) (backOf (W := 1) (rm2 l Z a0 hw [] b7 (4 : Int32) _ _ h7 n0 (Nat.le_trans Z0 K7.1) rfl F_size_b7 E_b7 F_counts_b7 g_b7 F_places_b7) hZ (hw _ (List.mem_of_getElem? (i := 10) rfl)) (hw _ (List.mem_of_getElem? (i := 7) rfl)) (by decide) (by decide)) (g := (mkF m 24 #[.val (.int i0), s1, .val (.long j2), .second, .val (.long j4), .second, .val (.int (i0 &&& (15 : Int32))), .val (.long (own_f1 j2)), .second, .val (.long (own_f1 j4)), .second, .unset] [(.int (4 : Int32)), (.ref b7), (.ref b7)])) rfl (by rw [hml]; rfl) (Steps.refl _) (a := b7) (argsL := [(.int (4 : Int32))]) (rest := [(.ref b7)]) (lenOf pd_0_1 rfl) rfl (by show 2 * 0 + _ ≤ _; exact Nat.le_of_eq rfl) (hb hby at_24) (fun _ _ => ⟨rfl, e7, (Nat.le_of_ble_eq_true rfl), (Nat.le_of_ble_eq_true rfl)⟩)
  dsimp only [Pt.U, Pt.locs, Pt.cells, Pt.slots] at X8 l8 y8 z8 st8 hQ8
  subst l8 y8 z8
  obtain ⟨rfl, N8q, K8, ca, pa, HT⟩ := hQ8
  have N8 := Fr.app N6 N8q
  refine ⟨b7, T8, _, _, X8, rfl, N8, (Nat.le_trans Z0 (Nat.le_trans K7.1 K8.1)), ⟨ca, pa, HT⟩, fun target kt => ?_⟩
  show Steps p.tables e below (T0.setTop (mkF m 0 #[.val (.int i0), s1, .val (.long j2), .second, .val (.long j4), .second, .unset, .unset, .unset, .unset, .unset, .unset] [])) _
  refine XS.iloadN X0.here hx rfl (hb hby at_0) rfl ?_
  show Steps p.tables e below (T0.setTop (mkF m 1 #[.val (.int i0), s1, .val (.long j2), .second, .val (.long j4), .second, .unset, .unset, .unset, .unset, .unset, .unset] [(.int i0)])) _
  refine XS.bipush X0.here hx rfl (hb hby at_1) ?_
  show Steps p.tables e below (T0.setTop (mkF m 3 #[.val (.int i0), s1, .val (.long j2), .second, .val (.long j4), .second, .unset, .unset, .unset, .unset, .unset, .unset] [(.int (15 : Int32)), (.int i0)])) _
  refine XS.iand X0.here hx rfl (hb hby at_3) rfl ?_
  show Steps p.tables e below (T0.setTop (mkF m 4 #[.val (.int i0), s1, .val (.long j2), .second, .val (.long j4), .second, .unset, .unset, .unset, .unset, .unset, .unset] [(.int (i0 &&& (15 : Int32)))])) _
  refine XS.istore X0.here hx rfl (hb hby at_4) rfl (l' := #[.val (.int i0), s1, .val (.long j2), .second, .val (.long j4), .second, .val (.int (i0 &&& (15 : Int32))), .unset, .unset, .unset, .unset, .unset]) (os0_4 hs6) ?_
  show Steps p.tables e below (T0.setTop (mkF m 6 #[.val (.int i0), s1, .val (.long j2), .second, .val (.long j4), .second, .val (.int (i0 &&& (15 : Int32))), .unset, .unset, .unset, .unset, .unset] [])) _
  refine XS.lloadN X0.here hx rfl (hb hby at_6) rfl ?_
  show Steps p.tables e below (T0.setTop (mkF m 7 #[.val (.int i0), s1, .val (.long j2), .second, .val (.long j4), .second, .val (.int (i0 &&& (15 : Int32))), .unset, .unset, .unset, .unset, .unset] [(.long j2)])) _
  refine st5 _ ?_
  show Steps p.tables e below (T5.setTop (mkF m 10 #[.val (.int i0), s1, .val (.long j2), .second, .val (.long j4), .second, .val (.int (i0 &&& (15 : Int32))), .unset, .unset, .unset, .unset, .unset] [(.long (own_f1 j2))])) _
  refine XS.lstore X5.here hx rfl (hb hby at_10) rfl (l' := #[.val (.int i0), s1, .val (.long j2), .second, .val (.long j4), .second, .val (.int (i0 &&& (15 : Int32))), .val (.long (own_f1 j2)), .second, .unset, .unset, .unset]) rfl ?_
  show Steps p.tables e below (T5.setTop (mkF m 12 #[.val (.int i0), s1, .val (.long j2), .second, .val (.long j4), .second, .val (.int (i0 &&& (15 : Int32))), .val (.long (own_f1 j2)), .second, .unset, .unset, .unset] [])) _
  refine XS.lload X5.here hx rfl (hb hby at_12) rfl ?_
  show Steps p.tables e below (T5.setTop (mkF m 14 #[.val (.int i0), s1, .val (.long j2), .second, .val (.long j4), .second, .val (.int (i0 &&& (15 : Int32))), .val (.long (own_f1 j2)), .second, .unset, .unset, .unset] [(.long j4)])) _
  refine st6 _ ?_
  show Steps p.tables e below (T6.setTop (mkF m 17 #[.val (.int i0), s1, .val (.long j2), .second, .val (.long j4), .second, .val (.int (i0 &&& (15 : Int32))), .val (.long (own_f1 j2)), .second, .unset, .unset, .unset] [(.long (own_f1 j4))])) _
  refine XS.lstore X6.here hx rfl (hb hby at_17) rfl (l' := #[.val (.int i0), s1, .val (.long j2), .second, .val (.long j4), .second, .val (.int (i0 &&& (15 : Int32))), .val (.long (own_f1 j2)), .second, .val (.long (own_f1 j4)), .second, .unset]) rfl ?_
  show Steps p.tables e below (T6.setTop (mkF m 19 #[.val (.int i0), s1, .val (.long j2), .second, .val (.long j4), .second, .val (.int (i0 &&& (15 : Int32))), .val (.long (own_f1 j2)), .second, .val (.long (own_f1 j4)), .second, .unset] [])) _
  refine st7 _ ?_
  show Steps p.tables e below (T7.setTop (mkF m 22 #[.val (.int i0), s1, .val (.long j2), .second, .val (.long j4), .second, .val (.int (i0 &&& (15 : Int32))), .val (.long (own_f1 j2)), .second, .val (.long (own_f1 j4)), .second, .unset] [(.ref b7)])) _
  refine XS.dup X7.here hx rfl (hb hby at_22) rfl rfl ?_
  show Steps p.tables e below (T7.setTop (mkF m 23 #[.val (.int i0), s1, .val (.long j2), .second, .val (.long j4), .second, .val (.int (i0 &&& (15 : Int32))), .val (.long (own_f1 j2)), .second, .val (.long (own_f1 j4)), .second, .unset] [(.ref b7), (.ref b7)])) _
  refine XS.iconst X7.here hx rfl (hb hby at_23) ?_
  show Steps p.tables e below (T7.setTop (mkF m 24 #[.val (.int i0), s1, .val (.long j2), .second, .val (.long j4), .second, .val (.int (i0 &&& (15 : Int32))), .val (.long (own_f1 j2)), .second, .val (.long (own_f1 j4)), .second, .unset] [(.int (4 : Int32)), (.ref b7), (.ref b7)])) _
  refine st8.trans ?_
  show Steps p.tables e below (T8.setTop (mkF m 27 #[.val (.int i0), s1, .val (.long j2), .second, .val (.long j4), .second, .val (.int (i0 &&& (15 : Int32))), .val (.long (own_f1 j2)), .second, .val (.long (own_f1 j4)), .second, .unset] [(.ref b7)])) _
  refine XS.astore X8.here hx rfl (hb hby at_27) rfl rfl (l' := #[.val (.int i0), s1, .val (.long j2), .second, .val (.long j4), .second, .val (.int (i0 &&& (15 : Int32))), .val (.long (own_f1 j2)), .second, .val (.long (own_f1 j4)), .second, .val (.ref b7)]) (os0_27 hs11) ?_
  exact kt
set_option maxRecDepth 65536 in
set_option maxHeartbeats 40000000 in
theorem tn0_29_35 {p : Program} {l : Launch} {e : Env} {R : Room} {s : State} {m : MethodId} {args : Array Value} {below : List Frame} {meth : Method} {c : Code} {T0 : State} {locs : List Loc} {cells slots : Nat} {Z : State} {a0 : Array Value} {h0 : Heap} (s0 : Slot) (i1 : Int32) (s2 : Slot) (s3 : Slot) (s4 : Slot) (s5 : Slot) (s6 : Slot) (s7 : Slot) (s8 : Slot) (s9 : Slot) (s10 : Slot) (s11 : Slot)
    (X0 : Stand p l e R s m args below meth c T0 locs cells slots) (hx : p.tables.exec = Jvm.exec) (hZ : Z.Warmed39 s.vm) (hw : ∀ d ∈ tables_1, d.before a0 Z = true) (hby : c.code = code) (hml : c.maxLocals = 12) (hown : s.vm.findClass "com/example/upweight/upweight/HeldTermsClearPinLaw" = some m.cls) (e0 : T0.heap = h0) (hc32 : (i1 &&& (1 : Int32)) = (0 : Int32)) :
    ∃ (T' : State), Stand p l e R s m args below meth c T' locs cells slots ∧ T'.heap = h0 ∧
      ∀ target, Steps p.tables e below (T'.setTop (mkF m 35 #[s0, .val (.int i1), s2, s3, s4, s5, s6, s7, s8, s9, s10, s11] [])) target → Steps p.tables e below (T0.setTop (mkF m 29 #[s0, .val (.int i1), s2, s3, s4, s5, s6, s7, s8, s9, s10, s11] [])) target := by

  refine ⟨T0, X0, e0, fun target kt => ?_⟩
  show Steps p.tables e below (T0.setTop (mkF m 29 #[s0, .val (.int i1), s2, s3, s4, s5, s6, s7, s8, s9, s10, s11] [])) _
  refine XS.iloadN X0.here hx rfl (hb hby at_29) rfl ?_
  show Steps p.tables e below (T0.setTop (mkF m 30 #[s0, .val (.int i1), s2, s3, s4, s5, s6, s7, s8, s9, s10, s11] [(.int i1)])) _
  refine XS.iconst X0.here hx rfl (hb hby at_30) ?_
  show Steps p.tables e below (T0.setTop (mkF m 31 #[s0, .val (.int i1), s2, s3, s4, s5, s6, s7, s8, s9, s10, s11] [(.int (1 : Int32)), (.int i1)])) _
  refine XS.iand X0.here hx rfl (hb hby at_31) rfl ?_
  show Steps p.tables e below (T0.setTop (mkF m 32 #[s0, .val (.int i1), s2, s3, s4, s5, s6, s7, s8, s9, s10, s11] [(.int (i1 &&& (1 : Int32)))])) _
  refine XS.ifNo X0.here hx rfl (hb hby at_32) rfl ((if0 _ _).trans (teq hc32).2) ?_
  exact kt
set_option maxRecDepth 65536 in
set_option maxHeartbeats 40000000 in
theorem tn0_29_99 {p : Program} {l : Launch} {e : Env} {R : Room} {s : State} {m : MethodId} {args : Array Value} {below : List Frame} {meth : Method} {c : Code} {T0 : State} {locs : List Loc} {cells slots : Nat} {Z : State} {a0 : Array Value} {h0 : Heap} (s0 : Slot) (i1 : Int32) (s2 : Slot) (s3 : Slot) (s4 : Slot) (s5 : Slot) (s6 : Slot) (s7 : Slot) (s8 : Slot) (s9 : Slot) (s10 : Slot) (s11 : Slot)
    (X0 : Stand p l e R s m args below meth c T0 locs cells slots) (hx : p.tables.exec = Jvm.exec) (hZ : Z.Warmed39 s.vm) (hw : ∀ d ∈ tables_1, d.before a0 Z = true) (hby : c.code = code) (hml : c.maxLocals = 12) (hown : s.vm.findClass "com/example/upweight/upweight/HeldTermsClearPinLaw" = some m.cls) (e0 : T0.heap = h0) (hc32 : ¬ ((i1 &&& (1 : Int32)) = (0 : Int32))) :
    ∃ (T' : State), Stand p l e R s m args below meth c T' locs cells slots ∧ T'.heap = h0 ∧
      ∀ target, Steps p.tables e below (T'.setTop (mkF m 99 #[s0, .val (.int i1), s2, s3, s4, s5, s6, s7, s8, s9, s10, s11] [])) target → Steps p.tables e below (T0.setTop (mkF m 29 #[s0, .val (.int i1), s2, s3, s4, s5, s6, s7, s8, s9, s10, s11] [])) target := by

  refine ⟨T0, X0, e0, fun target kt => ?_⟩
  show Steps p.tables e below (T0.setTop (mkF m 29 #[s0, .val (.int i1), s2, s3, s4, s5, s6, s7, s8, s9, s10, s11] [])) _
  refine XS.iloadN X0.here hx rfl (hb hby at_29) rfl ?_
  show Steps p.tables e below (T0.setTop (mkF m 30 #[s0, .val (.int i1), s2, s3, s4, s5, s6, s7, s8, s9, s10, s11] [(.int i1)])) _
  refine XS.iconst X0.here hx rfl (hb hby at_30) ?_
  show Steps p.tables e below (T0.setTop (mkF m 31 #[s0, .val (.int i1), s2, s3, s4, s5, s6, s7, s8, s9, s10, s11] [(.int (1 : Int32)), (.int i1)])) _
  refine XS.iand X0.here hx rfl (hb hby at_31) rfl ?_
  show Steps p.tables e below (T0.setTop (mkF m 32 #[s0, .val (.int i1), s2, s3, s4, s5, s6, s7, s8, s9, s10, s11] [(.int (i1 &&& (1 : Int32)))])) _
  refine XS.ifYes X0.here hx rfl (pc0 := 32) (pc' := 99) rfl (hb hby at_32) rfl ((if0 _ _).trans (feq hc32).2) (by decide) (by decide) ?_
  exact kt
set_option maxRecDepth 65536 in
set_option maxHeartbeats 40000000 in
theorem sk0_35_50 {p : Program} {l : Launch} {e : Env} {R : Room} {s : State} {m : MethodId} {args : Array Value} {below : List Frame} {meth : Method} {c : Code} {T0 : State} {locs : List Loc} {cells slots : Nat} {Z : State} {a0 : Array Value} {h0 : Heap} (s0 : Slot) (s1 : Slot) (s2 : Slot) (s3 : Slot) (s4 : Slot) (s5 : Slot) (i6 : Int32) (s7 : Slot) (s8 : Slot) (s9 : Slot) (s10 : Slot) (s11 : Slot)
    (X0 : Stand p l e R s m args below meth c T0 locs cells slots) (hx : p.tables.exec = Jvm.exec) (hZ : Z.Warmed39 s.vm) (hw : ∀ d ∈ tables_1, d.before a0 Z = true) (hby : c.code = code) (hml : c.maxLocals = 12) (hown : s.vm.findClass "com/example/upweight/upweight/HeldTermsClearPinLaw" = some m.cls) (e0 : T0.heap = h0) (hc39 : (i6 &&& (1 : Int32)) = (0 : Int32)) :
    ∃ (T' : State), Stand p l e R s m args below meth c T' locs cells slots ∧ T'.heap = h0 ∧
      ∀ target, Steps p.tables e below (T'.setTop (mkF m 50 #[s0, s1, s2, s3, s4, s5, .val (.int i6), s7, s8, s9, s10, s11] [])) target → Steps p.tables e below (T0.setTop (mkF m 35 #[s0, s1, s2, s3, s4, s5, .val (.int i6), s7, s8, s9, s10, s11] [])) target := by

  refine ⟨T0, X0, e0, fun target kt => ?_⟩
  show Steps p.tables e below (T0.setTop (mkF m 35 #[s0, s1, s2, s3, s4, s5, .val (.int i6), s7, s8, s9, s10, s11] [])) _
  refine XS.iload X0.here hx rfl (hb hby at_35) rfl ?_
  show Steps p.tables e below (T0.setTop (mkF m 37 #[s0, s1, s2, s3, s4, s5, .val (.int i6), s7, s8, s9, s10, s11] [(.int i6)])) _
  refine XS.iconst X0.here hx rfl (hb hby at_37) ?_
  show Steps p.tables e below (T0.setTop (mkF m 38 #[s0, s1, s2, s3, s4, s5, .val (.int i6), s7, s8, s9, s10, s11] [(.int (1 : Int32)), (.int i6)])) _
  refine XS.iand X0.here hx rfl (hb hby at_38) rfl ?_
  show Steps p.tables e below (T0.setTop (mkF m 39 #[s0, s1, s2, s3, s4, s5, .val (.int i6), s7, s8, s9, s10, s11] [(.int (i6 &&& (1 : Int32)))])) _
  refine XS.ifYes X0.here hx rfl (pc0 := 39) (pc' := 50) rfl (hb hby at_39) rfl ((if0 _ _).trans (teq hc39).1) (by decide) (by decide) ?_
  exact kt
theorem pd_0_5 : parseMethodDescriptor "(IJ)V" = some ⟨[.int, .long], none⟩ := by decide +kernel
set_option maxRecDepth 65536 in
set_option maxHeartbeats 40000000 in
theorem tn0_35_50 {p : Program} {l : Launch} {e : Env} {s : State} {m : MethodId} {args : Array Value} {below : List Frame} {meth : Method} {c : Code} {T0 : State} {locs : List Loc} {Z : State} {a0 : Array Value} {h0 : Heap} {n0 : Nat} (s0 : Slot) (s1 : Slot) (s2 : Slot) (s3 : Slot) (s4 : Slot) (s5 : Slot) (i6 : Int32) (j7 : Int64) (s9 : Slot) (s10 : Slot) (o11 : Addr) (ca pa : Addr) (n : Nat) (f : Nat → Nat) (g : Nat → Int64)
    (X0 : Stand p l e room_1 s m args below meth c T0 locs 3 11) (hx : p.tables.exec = Jvm.exec) (hZ : Z.Warmed39 s.vm) (hw : ∀ d ∈ tables_1, d.before a0 Z = true) (hby : c.code = code) (hml : c.maxLocals = 12) (hown : s.vm.findClass "com/example/upweight/upweight/HeldTermsClearPinLaw" = some m.cls) (e0 : T0.heap = h0) (N0 : Fr n0 locs) (Z0 : n0 ≤ h0.size) (E_o11 : Exa Z h0 o11 "com/example/upweight/upweight/HeldTerms") (hc39 : ¬ ((i6 &&& (1 : Int32)) = (0 : Int32))) (HT : own_HT Z n0 h0 o11 ca pa n f g) (IV : own_INV 0 n f g) :
    ∃ (T' : State) (h' : Heap) (locs' : List Loc), Stand p l e room_1 s m args below meth c T' locs' 3 11 ∧ T'.heap = h' ∧ Fr n0 locs' ∧ n0 ≤ h'.size ∧ (∃ n' f' g', own_HT Z n0 h' o11 ca pa n' f' g' ∧ own_INV 1 n' f' g') ∧
      ∀ target, Steps p.tables e below (T'.setTop (mkF m 50 #[s0, s1, s2, s3, s4, s5, .val (.int i6), .val (.long j7), .second, s9, s10, .val (.ref o11)] [])) target → Steps p.tables e below (T0.setTop (mkF m 35 #[s0, s1, s2, s3, s4, s5, .val (.int i6), .val (.long j7), .second, s9, s10, .val (.ref o11)] [])) target := by
  obtain ⟨cq5, kq5, q5a, q5b, q5c⟩ := isOf hZ e0 E_o11
  obtain ⟨_, _, ⟨T5, L5, k5, n5⟩, -, X5, ⟨Lc5, hQ5, l5, y5, z5⟩, st5⟩ := X0.virtualBack hx (y := (⟨"com/example/upweight/upweight/HeldTerms", "add", "(IJ)V"⟩ : MethodName)) (z := (⟨"com/example/upweight/upweight/HeldTerms", "add", "(IJ)V"⟩ : MethodName)) hown (mvT hZ (hw _ (List.mem_of_getElem? (i := 37) rfl))) (mvT hZ (hw _ (List.mem_of_getElem? (i := 38) rfl))) (notFace_of_selects (args := #[]) (mvT hZ (hw _ (List.mem_of_getElem? (i := 40) rfl)))) (mvT hZ (hw _ (List.mem_of_getElem? (i := 40) rfl))) (mvT hZ (hw _ (List.mem_of_getElem? (i := 39) rfl))) (by decide) (backOf (W := 0) (rm7 l Z a0 hw [] o11 ca pa n f g 0 j7 h0 n0 Z0 HT (Nat.lt_of_le_of_lt IV.1 (by decide)) (by decide)) hZ (hw _ (List.mem_of_getElem? (i := 41) rfl)) (hw _ (List.mem_of_getElem? (i := 7) rfl)) (by decide) (by decide)) q5a q5c (g := (mkF m 47 #[s0, s1, s2, s3, s4, s5, .val (.int i6), .val (.long j7), .second, s9, s10, .val (.ref o11)] [(.long j7), (.int (0 : Int32)), (.ref o11)])) rfl (by rw [hml]; rfl) (Steps.refl _) (argsL := [(.int (0 : Int32)), (.long j7)]) (rest := []) (lenOf pd_0_5 rfl) rfl (by show 2 * 0 + _ ≤ _; exact Nat.le_of_eq rfl) (hb hby at_47) (fun _ _ => ⟨rfl, e0, (Nat.le_of_ble_eq_true rfl), (Nat.le_of_ble_eq_true rfl)⟩)
  dsimp only [Pt.U, Pt.locs, Pt.cells, Pt.slots] at X5 l5 y5 z5 st5 hQ5
  subst l5 y5 z5
  obtain ⟨rfl, N5q, K5, HT5⟩ := hQ5
  have N5 := Fr.app N0 N5q
  refine ⟨T5, _, _, X5, rfl, N5, (Nat.le_trans Z0 K5.1), ⟨_, _, _, HT5, IV.add _ _⟩, fun target kt => ?_⟩
  show Steps p.tables e below (T0.setTop (mkF m 35 #[s0, s1, s2, s3, s4, s5, .val (.int i6), .val (.long j7), .second, s9, s10, .val (.ref o11)] [])) _
  refine XS.iload X0.here hx rfl (hb hby at_35) rfl ?_
  show Steps p.tables e below (T0.setTop (mkF m 37 #[s0, s1, s2, s3, s4, s5, .val (.int i6), .val (.long j7), .second, s9, s10, .val (.ref o11)] [(.int i6)])) _
  refine XS.iconst X0.here hx rfl (hb hby at_37) ?_
  show Steps p.tables e below (T0.setTop (mkF m 38 #[s0, s1, s2, s3, s4, s5, .val (.int i6), .val (.long j7), .second, s9, s10, .val (.ref o11)] [(.int (1 : Int32)), (.int i6)])) _
  refine XS.iand X0.here hx rfl (hb hby at_38) rfl ?_
  show Steps p.tables e below (T0.setTop (mkF m 39 #[s0, s1, s2, s3, s4, s5, .val (.int i6), .val (.long j7), .second, s9, s10, .val (.ref o11)] [(.int (i6 &&& (1 : Int32)))])) _
  refine XS.ifNo X0.here hx rfl (hb hby at_39) rfl ((if0 _ _).trans (feq hc39).1) ?_
  show Steps p.tables e below (T0.setTop (mkF m 42 #[s0, s1, s2, s3, s4, s5, .val (.int i6), .val (.long j7), .second, s9, s10, .val (.ref o11)] [])) _
  refine XS.aload X0.here hx rfl (hb hby at_42) rfl rfl ?_
  show Steps p.tables e below (T0.setTop (mkF m 44 #[s0, s1, s2, s3, s4, s5, .val (.int i6), .val (.long j7), .second, s9, s10, .val (.ref o11)] [(.ref o11)])) _
  refine XS.iconst X0.here hx rfl (hb hby at_44) ?_
  show Steps p.tables e below (T0.setTop (mkF m 45 #[s0, s1, s2, s3, s4, s5, .val (.int i6), .val (.long j7), .second, s9, s10, .val (.ref o11)] [(.int (0 : Int32)), (.ref o11)])) _
  refine XS.lload X0.here hx rfl (hb hby at_45) rfl ?_
  show Steps p.tables e below (T0.setTop (mkF m 47 #[s0, s1, s2, s3, s4, s5, .val (.int i6), .val (.long j7), .second, s9, s10, .val (.ref o11)] [(.long j7), (.int (0 : Int32)), (.ref o11)])) _
  refine st5.trans ?_
  exact kt
set_option maxRecDepth 65536 in
set_option maxHeartbeats 40000000 in
theorem sk0_50_65 {p : Program} {l : Launch} {e : Env} {R : Room} {s : State} {m : MethodId} {args : Array Value} {below : List Frame} {meth : Method} {c : Code} {T0 : State} {locs : List Loc} {cells slots : Nat} {Z : State} {a0 : Array Value} {h0 : Heap} (s0 : Slot) (s1 : Slot) (s2 : Slot) (s3 : Slot) (s4 : Slot) (s5 : Slot) (i6 : Int32) (s7 : Slot) (s8 : Slot) (s9 : Slot) (s10 : Slot) (s11 : Slot)
    (X0 : Stand p l e R s m args below meth c T0 locs cells slots) (hx : p.tables.exec = Jvm.exec) (hZ : Z.Warmed39 s.vm) (hw : ∀ d ∈ tables_1, d.before a0 Z = true) (hby : c.code = code) (hml : c.maxLocals = 12) (hown : s.vm.findClass "com/example/upweight/upweight/HeldTermsClearPinLaw" = some m.cls) (e0 : T0.heap = h0) (hc54 : (i6 &&& (2 : Int32)) = (0 : Int32)) :
    ∃ (T' : State), Stand p l e R s m args below meth c T' locs cells slots ∧ T'.heap = h0 ∧
      ∀ target, Steps p.tables e below (T'.setTop (mkF m 65 #[s0, s1, s2, s3, s4, s5, .val (.int i6), s7, s8, s9, s10, s11] [])) target → Steps p.tables e below (T0.setTop (mkF m 50 #[s0, s1, s2, s3, s4, s5, .val (.int i6), s7, s8, s9, s10, s11] [])) target := by

  refine ⟨T0, X0, e0, fun target kt => ?_⟩
  show Steps p.tables e below (T0.setTop (mkF m 50 #[s0, s1, s2, s3, s4, s5, .val (.int i6), s7, s8, s9, s10, s11] [])) _
  refine XS.iload X0.here hx rfl (hb hby at_50) rfl ?_
  show Steps p.tables e below (T0.setTop (mkF m 52 #[s0, s1, s2, s3, s4, s5, .val (.int i6), s7, s8, s9, s10, s11] [(.int i6)])) _
  refine XS.iconst X0.here hx rfl (hb hby at_52) ?_
  show Steps p.tables e below (T0.setTop (mkF m 53 #[s0, s1, s2, s3, s4, s5, .val (.int i6), s7, s8, s9, s10, s11] [(.int (2 : Int32)), (.int i6)])) _
  refine XS.iand X0.here hx rfl (hb hby at_53) rfl ?_
  show Steps p.tables e below (T0.setTop (mkF m 54 #[s0, s1, s2, s3, s4, s5, .val (.int i6), s7, s8, s9, s10, s11] [(.int (i6 &&& (2 : Int32)))])) _
  refine XS.ifYes X0.here hx rfl (pc0 := 54) (pc' := 65) rfl (hb hby at_54) rfl ((if0 _ _).trans (teq hc54).1) (by decide) (by decide) ?_
  exact kt
set_option maxRecDepth 65536 in
set_option maxHeartbeats 40000000 in
theorem tn0_50_65 {p : Program} {l : Launch} {e : Env} {s : State} {m : MethodId} {args : Array Value} {below : List Frame} {meth : Method} {c : Code} {T0 : State} {locs : List Loc} {Z : State} {a0 : Array Value} {h0 : Heap} {n0 : Nat} (s0 : Slot) (s1 : Slot) (s2 : Slot) (s3 : Slot) (s4 : Slot) (s5 : Slot) (i6 : Int32) (s7 : Slot) (s8 : Slot) (j9 : Int64) (o11 : Addr) (ca pa : Addr) (n : Nat) (f : Nat → Nat) (g : Nat → Int64)
    (X0 : Stand p l e room_1 s m args below meth c T0 locs 3 11) (hx : p.tables.exec = Jvm.exec) (hZ : Z.Warmed39 s.vm) (hw : ∀ d ∈ tables_1, d.before a0 Z = true) (hby : c.code = code) (hml : c.maxLocals = 12) (hown : s.vm.findClass "com/example/upweight/upweight/HeldTermsClearPinLaw" = some m.cls) (e0 : T0.heap = h0) (N0 : Fr n0 locs) (Z0 : n0 ≤ h0.size) (E_o11 : Exa Z h0 o11 "com/example/upweight/upweight/HeldTerms") (hc54 : ¬ ((i6 &&& (2 : Int32)) = (0 : Int32))) (HT : own_HT Z n0 h0 o11 ca pa n f g) (IV : own_INV 1 n f g) :
    ∃ (T' : State) (h' : Heap) (locs' : List Loc), Stand p l e room_1 s m args below meth c T' locs' 3 11 ∧ T'.heap = h' ∧ Fr n0 locs' ∧ n0 ≤ h'.size ∧ (∃ n' f' g', own_HT Z n0 h' o11 ca pa n' f' g' ∧ own_INV 2 n' f' g') ∧
      ∀ target, Steps p.tables e below (T'.setTop (mkF m 65 #[s0, s1, s2, s3, s4, s5, .val (.int i6), s7, s8, .val (.long j9), .second, .val (.ref o11)] [])) target → Steps p.tables e below (T0.setTop (mkF m 50 #[s0, s1, s2, s3, s4, s5, .val (.int i6), s7, s8, .val (.long j9), .second, .val (.ref o11)] [])) target := by
  obtain ⟨cq5, kq5, q5a, q5b, q5c⟩ := isOf hZ e0 E_o11
  obtain ⟨_, _, ⟨T5, L5, k5, n5⟩, -, X5, ⟨Lc5, hQ5, l5, y5, z5⟩, st5⟩ := X0.virtualBack hx (y := (⟨"com/example/upweight/upweight/HeldTerms", "add", "(IJ)V"⟩ : MethodName)) (z := (⟨"com/example/upweight/upweight/HeldTerms", "add", "(IJ)V"⟩ : MethodName)) hown (mvT hZ (hw _ (List.mem_of_getElem? (i := 37) rfl))) (mvT hZ (hw _ (List.mem_of_getElem? (i := 38) rfl))) (notFace_of_selects (args := #[]) (mvT hZ (hw _ (List.mem_of_getElem? (i := 40) rfl)))) (mvT hZ (hw _ (List.mem_of_getElem? (i := 40) rfl))) (mvT hZ (hw _ (List.mem_of_getElem? (i := 39) rfl))) (by decide) (backOf (W := 0) (rm7 l Z a0 hw [] o11 ca pa n f g 1 j9 h0 n0 Z0 HT (Nat.lt_of_le_of_lt IV.1 (by decide)) (by decide)) hZ (hw _ (List.mem_of_getElem? (i := 41) rfl)) (hw _ (List.mem_of_getElem? (i := 7) rfl)) (by decide) (by decide)) q5a q5c (g := (mkF m 62 #[s0, s1, s2, s3, s4, s5, .val (.int i6), s7, s8, .val (.long j9), .second, .val (.ref o11)] [(.long j9), (.int (1 : Int32)), (.ref o11)])) rfl (by rw [hml]; rfl) (Steps.refl _) (argsL := [(.int (1 : Int32)), (.long j9)]) (rest := []) (lenOf pd_0_5 rfl) rfl (by show 2 * 0 + _ ≤ _; exact Nat.le_of_eq rfl) (hb hby at_62) (fun _ _ => ⟨rfl, e0, (Nat.le_of_ble_eq_true rfl), (Nat.le_of_ble_eq_true rfl)⟩)
  dsimp only [Pt.U, Pt.locs, Pt.cells, Pt.slots] at X5 l5 y5 z5 st5 hQ5
  subst l5 y5 z5
  obtain ⟨rfl, N5q, K5, HT5⟩ := hQ5
  have N5 := Fr.app N0 N5q
  refine ⟨T5, _, _, X5, rfl, N5, (Nat.le_trans Z0 K5.1), ⟨_, _, _, HT5, IV.add _ _⟩, fun target kt => ?_⟩
  show Steps p.tables e below (T0.setTop (mkF m 50 #[s0, s1, s2, s3, s4, s5, .val (.int i6), s7, s8, .val (.long j9), .second, .val (.ref o11)] [])) _
  refine XS.iload X0.here hx rfl (hb hby at_50) rfl ?_
  show Steps p.tables e below (T0.setTop (mkF m 52 #[s0, s1, s2, s3, s4, s5, .val (.int i6), s7, s8, .val (.long j9), .second, .val (.ref o11)] [(.int i6)])) _
  refine XS.iconst X0.here hx rfl (hb hby at_52) ?_
  show Steps p.tables e below (T0.setTop (mkF m 53 #[s0, s1, s2, s3, s4, s5, .val (.int i6), s7, s8, .val (.long j9), .second, .val (.ref o11)] [(.int (2 : Int32)), (.int i6)])) _
  refine XS.iand X0.here hx rfl (hb hby at_53) rfl ?_
  show Steps p.tables e below (T0.setTop (mkF m 54 #[s0, s1, s2, s3, s4, s5, .val (.int i6), s7, s8, .val (.long j9), .second, .val (.ref o11)] [(.int (i6 &&& (2 : Int32)))])) _
  refine XS.ifNo X0.here hx rfl (hb hby at_54) rfl ((if0 _ _).trans (feq hc54).1) ?_
  show Steps p.tables e below (T0.setTop (mkF m 57 #[s0, s1, s2, s3, s4, s5, .val (.int i6), s7, s8, .val (.long j9), .second, .val (.ref o11)] [])) _
  refine XS.aload X0.here hx rfl (hb hby at_57) rfl rfl ?_
  show Steps p.tables e below (T0.setTop (mkF m 59 #[s0, s1, s2, s3, s4, s5, .val (.int i6), s7, s8, .val (.long j9), .second, .val (.ref o11)] [(.ref o11)])) _
  refine XS.iconst X0.here hx rfl (hb hby at_59) ?_
  show Steps p.tables e below (T0.setTop (mkF m 60 #[s0, s1, s2, s3, s4, s5, .val (.int i6), s7, s8, .val (.long j9), .second, .val (.ref o11)] [(.int (1 : Int32)), (.ref o11)])) _
  refine XS.lload X0.here hx rfl (hb hby at_60) rfl ?_
  show Steps p.tables e below (T0.setTop (mkF m 62 #[s0, s1, s2, s3, s4, s5, .val (.int i6), s7, s8, .val (.long j9), .second, .val (.ref o11)] [(.long j9), (.int (1 : Int32)), (.ref o11)])) _
  refine st5.trans ?_
  exact kt
set_option maxRecDepth 65536 in
set_option maxHeartbeats 40000000 in
theorem sk0_65_80 {p : Program} {l : Launch} {e : Env} {R : Room} {s : State} {m : MethodId} {args : Array Value} {below : List Frame} {meth : Method} {c : Code} {T0 : State} {locs : List Loc} {cells slots : Nat} {Z : State} {a0 : Array Value} {h0 : Heap} (s0 : Slot) (s1 : Slot) (s2 : Slot) (s3 : Slot) (s4 : Slot) (s5 : Slot) (i6 : Int32) (s7 : Slot) (s8 : Slot) (s9 : Slot) (s10 : Slot) (s11 : Slot)
    (X0 : Stand p l e R s m args below meth c T0 locs cells slots) (hx : p.tables.exec = Jvm.exec) (hZ : Z.Warmed39 s.vm) (hw : ∀ d ∈ tables_1, d.before a0 Z = true) (hby : c.code = code) (hml : c.maxLocals = 12) (hown : s.vm.findClass "com/example/upweight/upweight/HeldTermsClearPinLaw" = some m.cls) (e0 : T0.heap = h0) (hc69 : (i6 &&& (4 : Int32)) = (0 : Int32)) :
    ∃ (T' : State), Stand p l e R s m args below meth c T' locs cells slots ∧ T'.heap = h0 ∧
      ∀ target, Steps p.tables e below (T'.setTop (mkF m 80 #[s0, s1, s2, s3, s4, s5, .val (.int i6), s7, s8, s9, s10, s11] [])) target → Steps p.tables e below (T0.setTop (mkF m 65 #[s0, s1, s2, s3, s4, s5, .val (.int i6), s7, s8, s9, s10, s11] [])) target := by

  refine ⟨T0, X0, e0, fun target kt => ?_⟩
  show Steps p.tables e below (T0.setTop (mkF m 65 #[s0, s1, s2, s3, s4, s5, .val (.int i6), s7, s8, s9, s10, s11] [])) _
  refine XS.iload X0.here hx rfl (hb hby at_65) rfl ?_
  show Steps p.tables e below (T0.setTop (mkF m 67 #[s0, s1, s2, s3, s4, s5, .val (.int i6), s7, s8, s9, s10, s11] [(.int i6)])) _
  refine XS.iconst X0.here hx rfl (hb hby at_67) ?_
  show Steps p.tables e below (T0.setTop (mkF m 68 #[s0, s1, s2, s3, s4, s5, .val (.int i6), s7, s8, s9, s10, s11] [(.int (4 : Int32)), (.int i6)])) _
  refine XS.iand X0.here hx rfl (hb hby at_68) rfl ?_
  show Steps p.tables e below (T0.setTop (mkF m 69 #[s0, s1, s2, s3, s4, s5, .val (.int i6), s7, s8, s9, s10, s11] [(.int (i6 &&& (4 : Int32)))])) _
  refine XS.ifYes X0.here hx rfl (pc0 := 69) (pc' := 80) rfl (hb hby at_69) rfl ((if0 _ _).trans (teq hc69).1) (by decide) (by decide) ?_
  exact kt
set_option maxRecDepth 65536 in
set_option maxHeartbeats 40000000 in
theorem tn0_65_80 {p : Program} {l : Launch} {e : Env} {s : State} {m : MethodId} {args : Array Value} {below : List Frame} {meth : Method} {c : Code} {T0 : State} {locs : List Loc} {Z : State} {a0 : Array Value} {h0 : Heap} {n0 : Nat} (s0 : Slot) (s1 : Slot) (s2 : Slot) (s3 : Slot) (s4 : Slot) (s5 : Slot) (i6 : Int32) (j7 : Int64) (s9 : Slot) (s10 : Slot) (o11 : Addr) (ca pa : Addr) (n : Nat) (f : Nat → Nat) (g : Nat → Int64)
    (X0 : Stand p l e room_1 s m args below meth c T0 locs 3 11) (hx : p.tables.exec = Jvm.exec) (hZ : Z.Warmed39 s.vm) (hw : ∀ d ∈ tables_1, d.before a0 Z = true) (hby : c.code = code) (hml : c.maxLocals = 12) (hown : s.vm.findClass "com/example/upweight/upweight/HeldTermsClearPinLaw" = some m.cls) (e0 : T0.heap = h0) (N0 : Fr n0 locs) (Z0 : n0 ≤ h0.size) (E_o11 : Exa Z h0 o11 "com/example/upweight/upweight/HeldTerms") (hc69 : ¬ ((i6 &&& (4 : Int32)) = (0 : Int32))) (HT : own_HT Z n0 h0 o11 ca pa n f g) (IV : own_INV 2 n f g) :
    ∃ (T' : State) (h' : Heap) (locs' : List Loc), Stand p l e room_1 s m args below meth c T' locs' 3 11 ∧ T'.heap = h' ∧ Fr n0 locs' ∧ n0 ≤ h'.size ∧ (∃ n' f' g', own_HT Z n0 h' o11 ca pa n' f' g' ∧ own_INV 3 n' f' g') ∧
      ∀ target, Steps p.tables e below (T'.setTop (mkF m 80 #[s0, s1, s2, s3, s4, s5, .val (.int i6), .val (.long j7), .second, s9, s10, .val (.ref o11)] [])) target → Steps p.tables e below (T0.setTop (mkF m 65 #[s0, s1, s2, s3, s4, s5, .val (.int i6), .val (.long j7), .second, s9, s10, .val (.ref o11)] [])) target := by
  obtain ⟨cq5, kq5, q5a, q5b, q5c⟩ := isOf hZ e0 E_o11
  obtain ⟨_, _, ⟨T5, L5, k5, n5⟩, -, X5, ⟨Lc5, hQ5, l5, y5, z5⟩, st5⟩ := X0.virtualBack hx (y := (⟨"com/example/upweight/upweight/HeldTerms", "add", "(IJ)V"⟩ : MethodName)) (z := (⟨"com/example/upweight/upweight/HeldTerms", "add", "(IJ)V"⟩ : MethodName)) hown (mvT hZ (hw _ (List.mem_of_getElem? (i := 37) rfl))) (mvT hZ (hw _ (List.mem_of_getElem? (i := 38) rfl))) (notFace_of_selects (args := #[]) (mvT hZ (hw _ (List.mem_of_getElem? (i := 40) rfl)))) (mvT hZ (hw _ (List.mem_of_getElem? (i := 40) rfl))) (mvT hZ (hw _ (List.mem_of_getElem? (i := 39) rfl))) (by decide) (backOf (W := 0) (rm7 l Z a0 hw [] o11 ca pa n f g 2 j7 h0 n0 Z0 HT (Nat.lt_of_le_of_lt IV.1 (by decide)) (by decide)) hZ (hw _ (List.mem_of_getElem? (i := 41) rfl)) (hw _ (List.mem_of_getElem? (i := 7) rfl)) (by decide) (by decide)) q5a q5c (g := (mkF m 77 #[s0, s1, s2, s3, s4, s5, .val (.int i6), .val (.long j7), .second, s9, s10, .val (.ref o11)] [(.long j7), (.int (2 : Int32)), (.ref o11)])) rfl (by rw [hml]; rfl) (Steps.refl _) (argsL := [(.int (2 : Int32)), (.long j7)]) (rest := []) (lenOf pd_0_5 rfl) rfl (by show 2 * 0 + _ ≤ _; exact Nat.le_of_eq rfl) (hb hby at_77) (fun _ _ => ⟨rfl, e0, (Nat.le_of_ble_eq_true rfl), (Nat.le_of_ble_eq_true rfl)⟩)
  dsimp only [Pt.U, Pt.locs, Pt.cells, Pt.slots] at X5 l5 y5 z5 st5 hQ5
  subst l5 y5 z5
  obtain ⟨rfl, N5q, K5, HT5⟩ := hQ5
  have N5 := Fr.app N0 N5q
  refine ⟨T5, _, _, X5, rfl, N5, (Nat.le_trans Z0 K5.1), ⟨_, _, _, HT5, IV.add _ _⟩, fun target kt => ?_⟩
  show Steps p.tables e below (T0.setTop (mkF m 65 #[s0, s1, s2, s3, s4, s5, .val (.int i6), .val (.long j7), .second, s9, s10, .val (.ref o11)] [])) _
  refine XS.iload X0.here hx rfl (hb hby at_65) rfl ?_
  show Steps p.tables e below (T0.setTop (mkF m 67 #[s0, s1, s2, s3, s4, s5, .val (.int i6), .val (.long j7), .second, s9, s10, .val (.ref o11)] [(.int i6)])) _
  refine XS.iconst X0.here hx rfl (hb hby at_67) ?_
  show Steps p.tables e below (T0.setTop (mkF m 68 #[s0, s1, s2, s3, s4, s5, .val (.int i6), .val (.long j7), .second, s9, s10, .val (.ref o11)] [(.int (4 : Int32)), (.int i6)])) _
  refine XS.iand X0.here hx rfl (hb hby at_68) rfl ?_
  show Steps p.tables e below (T0.setTop (mkF m 69 #[s0, s1, s2, s3, s4, s5, .val (.int i6), .val (.long j7), .second, s9, s10, .val (.ref o11)] [(.int (i6 &&& (4 : Int32)))])) _
  refine XS.ifNo X0.here hx rfl (hb hby at_69) rfl ((if0 _ _).trans (feq hc69).1) ?_
  show Steps p.tables e below (T0.setTop (mkF m 72 #[s0, s1, s2, s3, s4, s5, .val (.int i6), .val (.long j7), .second, s9, s10, .val (.ref o11)] [])) _
  refine XS.aload X0.here hx rfl (hb hby at_72) rfl rfl ?_
  show Steps p.tables e below (T0.setTop (mkF m 74 #[s0, s1, s2, s3, s4, s5, .val (.int i6), .val (.long j7), .second, s9, s10, .val (.ref o11)] [(.ref o11)])) _
  refine XS.iconst X0.here hx rfl (hb hby at_74) ?_
  show Steps p.tables e below (T0.setTop (mkF m 75 #[s0, s1, s2, s3, s4, s5, .val (.int i6), .val (.long j7), .second, s9, s10, .val (.ref o11)] [(.int (2 : Int32)), (.ref o11)])) _
  refine XS.lload X0.here hx rfl (hb hby at_75) rfl ?_
  show Steps p.tables e below (T0.setTop (mkF m 77 #[s0, s1, s2, s3, s4, s5, .val (.int i6), .val (.long j7), .second, s9, s10, .val (.ref o11)] [(.long j7), (.int (2 : Int32)), (.ref o11)])) _
  refine st5.trans ?_
  exact kt
set_option maxRecDepth 65536 in
set_option maxHeartbeats 40000000 in
theorem sk0_80_160 {p : Program} {l : Launch} {e : Env} {R : Room} {s : State} {m : MethodId} {args : Array Value} {below : List Frame} {meth : Method} {c : Code} {T0 : State} {locs : List Loc} {cells slots : Nat} {Z : State} {a0 : Array Value} {h0 : Heap} (s0 : Slot) (s1 : Slot) (s2 : Slot) (s3 : Slot) (s4 : Slot) (s5 : Slot) (i6 : Int32) (s7 : Slot) (s8 : Slot) (s9 : Slot) (s10 : Slot) (s11 : Slot)
    (X0 : Stand p l e R s m args below meth c T0 locs cells slots) (hx : p.tables.exec = Jvm.exec) (hZ : Z.Warmed39 s.vm) (hw : ∀ d ∈ tables_1, d.before a0 Z = true) (hby : c.code = code) (hml : c.maxLocals = 12) (hown : s.vm.findClass "com/example/upweight/upweight/HeldTermsClearPinLaw" = some m.cls) (e0 : T0.heap = h0) (hc85 : (i6 &&& (8 : Int32)) = (0 : Int32)) :
    ∃ (T' : State), Stand p l e R s m args below meth c T' locs cells slots ∧ T'.heap = h0 ∧
      ∀ target, Steps p.tables e below (T'.setTop (mkF m 160 #[s0, s1, s2, s3, s4, s5, .val (.int i6), s7, s8, s9, s10, s11] [])) target → Steps p.tables e below (T0.setTop (mkF m 80 #[s0, s1, s2, s3, s4, s5, .val (.int i6), s7, s8, s9, s10, s11] [])) target := by

  refine ⟨T0, X0, e0, fun target kt => ?_⟩
  show Steps p.tables e below (T0.setTop (mkF m 80 #[s0, s1, s2, s3, s4, s5, .val (.int i6), s7, s8, s9, s10, s11] [])) _
  refine XS.iload X0.here hx rfl (hb hby at_80) rfl ?_
  show Steps p.tables e below (T0.setTop (mkF m 82 #[s0, s1, s2, s3, s4, s5, .val (.int i6), s7, s8, s9, s10, s11] [(.int i6)])) _
  refine XS.bipush X0.here hx rfl (hb hby at_82) ?_
  show Steps p.tables e below (T0.setTop (mkF m 84 #[s0, s1, s2, s3, s4, s5, .val (.int i6), s7, s8, s9, s10, s11] [(.int (8 : Int32)), (.int i6)])) _
  refine XS.iand X0.here hx rfl (hb hby at_84) rfl ?_
  show Steps p.tables e below (T0.setTop (mkF m 85 #[s0, s1, s2, s3, s4, s5, .val (.int i6), s7, s8, s9, s10, s11] [(.int (i6 &&& (8 : Int32)))])) _
  refine XS.ifYes X0.here hx rfl (pc0 := 85) (pc' := 160) rfl (hb hby at_85) rfl ((if0 _ _).trans (teq hc85).1) (by decide) (by decide) ?_
  exact kt
set_option maxRecDepth 65536 in
set_option maxHeartbeats 40000000 in
theorem tn0_80_160 {p : Program} {l : Launch} {e : Env} {s : State} {m : MethodId} {args : Array Value} {below : List Frame} {meth : Method} {c : Code} {T0 : State} {locs : List Loc} {Z : State} {a0 : Array Value} {h0 : Heap} {n0 : Nat} (s0 : Slot) (s1 : Slot) (s2 : Slot) (s3 : Slot) (s4 : Slot) (s5 : Slot) (i6 : Int32) (s7 : Slot) (s8 : Slot) (j9 : Int64) (o11 : Addr) (ca pa : Addr) (n : Nat) (f : Nat → Nat) (g : Nat → Int64)
    (X0 : Stand p l e room_1 s m args below meth c T0 locs 3 11) (hx : p.tables.exec = Jvm.exec) (hZ : Z.Warmed39 s.vm) (hw : ∀ d ∈ tables_1, d.before a0 Z = true) (hby : c.code = code) (hml : c.maxLocals = 12) (hown : s.vm.findClass "com/example/upweight/upweight/HeldTermsClearPinLaw" = some m.cls) (e0 : T0.heap = h0) (N0 : Fr n0 locs) (Z0 : n0 ≤ h0.size) (E_o11 : Exa Z h0 o11 "com/example/upweight/upweight/HeldTerms") (hc85 : ¬ ((i6 &&& (8 : Int32)) = (0 : Int32))) (HT : own_HT Z n0 h0 o11 ca pa n f g) (IV : own_INV 3 n f g) :
    ∃ (T' : State) (h' : Heap) (locs' : List Loc), Stand p l e room_1 s m args below meth c T' locs' 3 11 ∧ T'.heap = h' ∧ Fr n0 locs' ∧ n0 ≤ h'.size ∧ (∃ n' f' g', own_HT Z n0 h' o11 ca pa n' f' g' ∧ own_INV 4 n' f' g') ∧
      ∀ target, Steps p.tables e below (T'.setTop (mkF m 160 #[s0, s1, s2, s3, s4, s5, .val (.int i6), s7, s8, .val (.long j9), .second, .val (.ref o11)] [])) target → Steps p.tables e below (T0.setTop (mkF m 80 #[s0, s1, s2, s3, s4, s5, .val (.int i6), s7, s8, .val (.long j9), .second, .val (.ref o11)] [])) target := by
  obtain ⟨cq5, kq5, q5a, q5b, q5c⟩ := isOf hZ e0 E_o11
  obtain ⟨_, _, ⟨T5, L5, k5, n5⟩, -, X5, ⟨Lc5, hQ5, l5, y5, z5⟩, st5⟩ := X0.virtualBack hx (y := (⟨"com/example/upweight/upweight/HeldTerms", "add", "(IJ)V"⟩ : MethodName)) (z := (⟨"com/example/upweight/upweight/HeldTerms", "add", "(IJ)V"⟩ : MethodName)) hown (mvT hZ (hw _ (List.mem_of_getElem? (i := 37) rfl))) (mvT hZ (hw _ (List.mem_of_getElem? (i := 38) rfl))) (notFace_of_selects (args := #[]) (mvT hZ (hw _ (List.mem_of_getElem? (i := 40) rfl)))) (mvT hZ (hw _ (List.mem_of_getElem? (i := 40) rfl))) (mvT hZ (hw _ (List.mem_of_getElem? (i := 39) rfl))) (by decide) (backOf (W := 0) (rm7 l Z a0 hw [] o11 ca pa n f g 3 j9 h0 n0 Z0 HT (Nat.lt_of_le_of_lt IV.1 (by decide)) (by decide)) hZ (hw _ (List.mem_of_getElem? (i := 41) rfl)) (hw _ (List.mem_of_getElem? (i := 7) rfl)) (by decide) (by decide)) q5a q5c (g := (mkF m 93 #[s0, s1, s2, s3, s4, s5, .val (.int i6), s7, s8, .val (.long j9), .second, .val (.ref o11)] [(.long j9), (.int (3 : Int32)), (.ref o11)])) rfl (by rw [hml]; rfl) (Steps.refl _) (argsL := [(.int (3 : Int32)), (.long j9)]) (rest := []) (lenOf pd_0_5 rfl) rfl (by show 2 * 0 + _ ≤ _; exact Nat.le_of_eq rfl) (hb hby at_93) (fun _ _ => ⟨rfl, e0, (Nat.le_of_ble_eq_true rfl), (Nat.le_of_ble_eq_true rfl)⟩)
  dsimp only [Pt.U, Pt.locs, Pt.cells, Pt.slots] at X5 l5 y5 z5 st5 hQ5
  subst l5 y5 z5
  obtain ⟨rfl, N5q, K5, HT5⟩ := hQ5
  have N5 := Fr.app N0 N5q
  refine ⟨T5, _, _, X5, rfl, N5, (Nat.le_trans Z0 K5.1), ⟨_, _, _, HT5, IV.add _ _⟩, fun target kt => ?_⟩
  show Steps p.tables e below (T0.setTop (mkF m 80 #[s0, s1, s2, s3, s4, s5, .val (.int i6), s7, s8, .val (.long j9), .second, .val (.ref o11)] [])) _
  refine XS.iload X0.here hx rfl (hb hby at_80) rfl ?_
  show Steps p.tables e below (T0.setTop (mkF m 82 #[s0, s1, s2, s3, s4, s5, .val (.int i6), s7, s8, .val (.long j9), .second, .val (.ref o11)] [(.int i6)])) _
  refine XS.bipush X0.here hx rfl (hb hby at_82) ?_
  show Steps p.tables e below (T0.setTop (mkF m 84 #[s0, s1, s2, s3, s4, s5, .val (.int i6), s7, s8, .val (.long j9), .second, .val (.ref o11)] [(.int (8 : Int32)), (.int i6)])) _
  refine XS.iand X0.here hx rfl (hb hby at_84) rfl ?_
  show Steps p.tables e below (T0.setTop (mkF m 85 #[s0, s1, s2, s3, s4, s5, .val (.int i6), s7, s8, .val (.long j9), .second, .val (.ref o11)] [(.int (i6 &&& (8 : Int32)))])) _
  refine XS.ifNo X0.here hx rfl (hb hby at_85) rfl ((if0 _ _).trans (feq hc85).1) ?_
  show Steps p.tables e below (T0.setTop (mkF m 88 #[s0, s1, s2, s3, s4, s5, .val (.int i6), s7, s8, .val (.long j9), .second, .val (.ref o11)] [])) _
  refine XS.aload X0.here hx rfl (hb hby at_88) rfl rfl ?_
  show Steps p.tables e below (T0.setTop (mkF m 90 #[s0, s1, s2, s3, s4, s5, .val (.int i6), s7, s8, .val (.long j9), .second, .val (.ref o11)] [(.ref o11)])) _
  refine XS.iconst X0.here hx rfl (hb hby at_90) ?_
  show Steps p.tables e below (T0.setTop (mkF m 91 #[s0, s1, s2, s3, s4, s5, .val (.int i6), s7, s8, .val (.long j9), .second, .val (.ref o11)] [(.int (3 : Int32)), (.ref o11)])) _
  refine XS.lload X0.here hx rfl (hb hby at_91) rfl ?_
  show Steps p.tables e below (T0.setTop (mkF m 93 #[s0, s1, s2, s3, s4, s5, .val (.int i6), s7, s8, .val (.long j9), .second, .val (.ref o11)] [(.long j9), (.int (3 : Int32)), (.ref o11)])) _
  refine st5.trans ?_
  show Steps p.tables e below (T5.setTop (mkF m 96 #[s0, s1, s2, s3, s4, s5, .val (.int i6), s7, s8, .val (.long j9), .second, .val (.ref o11)] [])) _
  refine XS.goto X5.here hx rfl (pc0 := 96) (pc' := 160) rfl (hb hby at_96) (by decide) (by decide) ?_
  exact kt
set_option maxRecDepth 65536 in
set_option maxHeartbeats 40000000 in
theorem sk0_99_115 {p : Program} {l : Launch} {e : Env} {R : Room} {s : State} {m : MethodId} {args : Array Value} {below : List Frame} {meth : Method} {c : Code} {T0 : State} {locs : List Loc} {cells slots : Nat} {Z : State} {a0 : Array Value} {h0 : Heap} (s0 : Slot) (s1 : Slot) (s2 : Slot) (s3 : Slot) (s4 : Slot) (s5 : Slot) (i6 : Int32) (s7 : Slot) (s8 : Slot) (s9 : Slot) (s10 : Slot) (s11 : Slot)
    (X0 : Stand p l e R s m args below meth c T0 locs cells slots) (hx : p.tables.exec = Jvm.exec) (hZ : Z.Warmed39 s.vm) (hw : ∀ d ∈ tables_1, d.before a0 Z = true) (hby : c.code = code) (hml : c.maxLocals = 12) (hown : s.vm.findClass "com/example/upweight/upweight/HeldTermsClearPinLaw" = some m.cls) (e0 : T0.heap = h0) (hc104 : (i6 &&& (8 : Int32)) = (0 : Int32)) :
    ∃ (T' : State), Stand p l e R s m args below meth c T' locs cells slots ∧ T'.heap = h0 ∧
      ∀ target, Steps p.tables e below (T'.setTop (mkF m 115 #[s0, s1, s2, s3, s4, s5, .val (.int i6), s7, s8, s9, s10, s11] [])) target → Steps p.tables e below (T0.setTop (mkF m 99 #[s0, s1, s2, s3, s4, s5, .val (.int i6), s7, s8, s9, s10, s11] [])) target := by

  refine ⟨T0, X0, e0, fun target kt => ?_⟩
  show Steps p.tables e below (T0.setTop (mkF m 99 #[s0, s1, s2, s3, s4, s5, .val (.int i6), s7, s8, s9, s10, s11] [])) _
  refine XS.iload X0.here hx rfl (hb hby at_99) rfl ?_
  show Steps p.tables e below (T0.setTop (mkF m 101 #[s0, s1, s2, s3, s4, s5, .val (.int i6), s7, s8, s9, s10, s11] [(.int i6)])) _
  refine XS.bipush X0.here hx rfl (hb hby at_101) ?_
  show Steps p.tables e below (T0.setTop (mkF m 103 #[s0, s1, s2, s3, s4, s5, .val (.int i6), s7, s8, s9, s10, s11] [(.int (8 : Int32)), (.int i6)])) _
  refine XS.iand X0.here hx rfl (hb hby at_103) rfl ?_
  show Steps p.tables e below (T0.setTop (mkF m 104 #[s0, s1, s2, s3, s4, s5, .val (.int i6), s7, s8, s9, s10, s11] [(.int (i6 &&& (8 : Int32)))])) _
  refine XS.ifYes X0.here hx rfl (pc0 := 104) (pc' := 115) rfl (hb hby at_104) rfl ((if0 _ _).trans (teq hc104).1) (by decide) (by decide) ?_
  exact kt
set_option maxRecDepth 65536 in
set_option maxHeartbeats 40000000 in
theorem tn0_99_115 {p : Program} {l : Launch} {e : Env} {s : State} {m : MethodId} {args : Array Value} {below : List Frame} {meth : Method} {c : Code} {T0 : State} {locs : List Loc} {Z : State} {a0 : Array Value} {h0 : Heap} {n0 : Nat} (s0 : Slot) (s1 : Slot) (s2 : Slot) (s3 : Slot) (s4 : Slot) (s5 : Slot) (i6 : Int32) (s7 : Slot) (s8 : Slot) (j9 : Int64) (o11 : Addr) (ca pa : Addr) (n : Nat) (f : Nat → Nat) (g : Nat → Int64)
    (X0 : Stand p l e room_1 s m args below meth c T0 locs 3 11) (hx : p.tables.exec = Jvm.exec) (hZ : Z.Warmed39 s.vm) (hw : ∀ d ∈ tables_1, d.before a0 Z = true) (hby : c.code = code) (hml : c.maxLocals = 12) (hown : s.vm.findClass "com/example/upweight/upweight/HeldTermsClearPinLaw" = some m.cls) (e0 : T0.heap = h0) (N0 : Fr n0 locs) (Z0 : n0 ≤ h0.size) (E_o11 : Exa Z h0 o11 "com/example/upweight/upweight/HeldTerms") (hc104 : ¬ ((i6 &&& (8 : Int32)) = (0 : Int32))) (HT : own_HT Z n0 h0 o11 ca pa n f g) (IV : own_INV 0 n f g) :
    ∃ (T' : State) (h' : Heap) (locs' : List Loc), Stand p l e room_1 s m args below meth c T' locs' 3 11 ∧ T'.heap = h' ∧ Fr n0 locs' ∧ n0 ≤ h'.size ∧ (∃ n' f' g', own_HT Z n0 h' o11 ca pa n' f' g' ∧ own_INV 1 n' f' g') ∧
      ∀ target, Steps p.tables e below (T'.setTop (mkF m 115 #[s0, s1, s2, s3, s4, s5, .val (.int i6), s7, s8, .val (.long j9), .second, .val (.ref o11)] [])) target → Steps p.tables e below (T0.setTop (mkF m 99 #[s0, s1, s2, s3, s4, s5, .val (.int i6), s7, s8, .val (.long j9), .second, .val (.ref o11)] [])) target := by
  obtain ⟨cq5, kq5, q5a, q5b, q5c⟩ := isOf hZ e0 E_o11
  obtain ⟨_, _, ⟨T5, L5, k5, n5⟩, -, X5, ⟨Lc5, hQ5, l5, y5, z5⟩, st5⟩ := X0.virtualBack hx (y := (⟨"com/example/upweight/upweight/HeldTerms", "add", "(IJ)V"⟩ : MethodName)) (z := (⟨"com/example/upweight/upweight/HeldTerms", "add", "(IJ)V"⟩ : MethodName)) hown (mvT hZ (hw _ (List.mem_of_getElem? (i := 37) rfl))) (mvT hZ (hw _ (List.mem_of_getElem? (i := 38) rfl))) (notFace_of_selects (args := #[]) (mvT hZ (hw _ (List.mem_of_getElem? (i := 40) rfl)))) (mvT hZ (hw _ (List.mem_of_getElem? (i := 40) rfl))) (mvT hZ (hw _ (List.mem_of_getElem? (i := 39) rfl))) (by decide) (backOf (W := 0) (rm7 l Z a0 hw [] o11 ca pa n f g 3 j9 h0 n0 Z0 HT (Nat.lt_of_le_of_lt IV.1 (by decide)) (by decide)) hZ (hw _ (List.mem_of_getElem? (i := 41) rfl)) (hw _ (List.mem_of_getElem? (i := 7) rfl)) (by decide) (by decide)) q5a q5c (g := (mkF m 112 #[s0, s1, s2, s3, s4, s5, .val (.int i6), s7, s8, .val (.long j9), .second, .val (.ref o11)] [(.long j9), (.int (3 : Int32)), (.ref o11)])) rfl (by rw [hml]; rfl) (Steps.refl _) (argsL := [(.int (3 : Int32)), (.long j9)]) (rest := []) (lenOf pd_0_5 rfl) rfl (by show 2 * 0 + _ ≤ _; exact Nat.le_of_eq rfl) (hb hby at_112) (fun _ _ => ⟨rfl, e0, (Nat.le_of_ble_eq_true rfl), (Nat.le_of_ble_eq_true rfl)⟩)
  dsimp only [Pt.U, Pt.locs, Pt.cells, Pt.slots] at X5 l5 y5 z5 st5 hQ5
  subst l5 y5 z5
  obtain ⟨rfl, N5q, K5, HT5⟩ := hQ5
  have N5 := Fr.app N0 N5q
  refine ⟨T5, _, _, X5, rfl, N5, (Nat.le_trans Z0 K5.1), ⟨_, _, _, HT5, IV.add _ _⟩, fun target kt => ?_⟩
  show Steps p.tables e below (T0.setTop (mkF m 99 #[s0, s1, s2, s3, s4, s5, .val (.int i6), s7, s8, .val (.long j9), .second, .val (.ref o11)] [])) _
  refine XS.iload X0.here hx rfl (hb hby at_99) rfl ?_
  show Steps p.tables e below (T0.setTop (mkF m 101 #[s0, s1, s2, s3, s4, s5, .val (.int i6), s7, s8, .val (.long j9), .second, .val (.ref o11)] [(.int i6)])) _
  refine XS.bipush X0.here hx rfl (hb hby at_101) ?_
  show Steps p.tables e below (T0.setTop (mkF m 103 #[s0, s1, s2, s3, s4, s5, .val (.int i6), s7, s8, .val (.long j9), .second, .val (.ref o11)] [(.int (8 : Int32)), (.int i6)])) _
  refine XS.iand X0.here hx rfl (hb hby at_103) rfl ?_
  show Steps p.tables e below (T0.setTop (mkF m 104 #[s0, s1, s2, s3, s4, s5, .val (.int i6), s7, s8, .val (.long j9), .second, .val (.ref o11)] [(.int (i6 &&& (8 : Int32)))])) _
  refine XS.ifNo X0.here hx rfl (hb hby at_104) rfl ((if0 _ _).trans (feq hc104).1) ?_
  show Steps p.tables e below (T0.setTop (mkF m 107 #[s0, s1, s2, s3, s4, s5, .val (.int i6), s7, s8, .val (.long j9), .second, .val (.ref o11)] [])) _
  refine XS.aload X0.here hx rfl (hb hby at_107) rfl rfl ?_
  show Steps p.tables e below (T0.setTop (mkF m 109 #[s0, s1, s2, s3, s4, s5, .val (.int i6), s7, s8, .val (.long j9), .second, .val (.ref o11)] [(.ref o11)])) _
  refine XS.iconst X0.here hx rfl (hb hby at_109) ?_
  show Steps p.tables e below (T0.setTop (mkF m 110 #[s0, s1, s2, s3, s4, s5, .val (.int i6), s7, s8, .val (.long j9), .second, .val (.ref o11)] [(.int (3 : Int32)), (.ref o11)])) _
  refine XS.lload X0.here hx rfl (hb hby at_110) rfl ?_
  show Steps p.tables e below (T0.setTop (mkF m 112 #[s0, s1, s2, s3, s4, s5, .val (.int i6), s7, s8, .val (.long j9), .second, .val (.ref o11)] [(.long j9), (.int (3 : Int32)), (.ref o11)])) _
  refine st5.trans ?_
  exact kt
set_option maxRecDepth 65536 in
set_option maxHeartbeats 40000000 in
theorem sk0_115_130 {p : Program} {l : Launch} {e : Env} {R : Room} {s : State} {m : MethodId} {args : Array Value} {below : List Frame} {meth : Method} {c : Code} {T0 : State} {locs : List Loc} {cells slots : Nat} {Z : State} {a0 : Array Value} {h0 : Heap} (s0 : Slot) (s1 : Slot) (s2 : Slot) (s3 : Slot) (s4 : Slot) (s5 : Slot) (i6 : Int32) (s7 : Slot) (s8 : Slot) (s9 : Slot) (s10 : Slot) (s11 : Slot)
    (X0 : Stand p l e R s m args below meth c T0 locs cells slots) (hx : p.tables.exec = Jvm.exec) (hZ : Z.Warmed39 s.vm) (hw : ∀ d ∈ tables_1, d.before a0 Z = true) (hby : c.code = code) (hml : c.maxLocals = 12) (hown : s.vm.findClass "com/example/upweight/upweight/HeldTermsClearPinLaw" = some m.cls) (e0 : T0.heap = h0) (hc119 : (i6 &&& (4 : Int32)) = (0 : Int32)) :
    ∃ (T' : State), Stand p l e R s m args below meth c T' locs cells slots ∧ T'.heap = h0 ∧
      ∀ target, Steps p.tables e below (T'.setTop (mkF m 130 #[s0, s1, s2, s3, s4, s5, .val (.int i6), s7, s8, s9, s10, s11] [])) target → Steps p.tables e below (T0.setTop (mkF m 115 #[s0, s1, s2, s3, s4, s5, .val (.int i6), s7, s8, s9, s10, s11] [])) target := by

  refine ⟨T0, X0, e0, fun target kt => ?_⟩
  show Steps p.tables e below (T0.setTop (mkF m 115 #[s0, s1, s2, s3, s4, s5, .val (.int i6), s7, s8, s9, s10, s11] [])) _
  refine XS.iload X0.here hx rfl (hb hby at_115) rfl ?_
  show Steps p.tables e below (T0.setTop (mkF m 117 #[s0, s1, s2, s3, s4, s5, .val (.int i6), s7, s8, s9, s10, s11] [(.int i6)])) _
  refine XS.iconst X0.here hx rfl (hb hby at_117) ?_
  show Steps p.tables e below (T0.setTop (mkF m 118 #[s0, s1, s2, s3, s4, s5, .val (.int i6), s7, s8, s9, s10, s11] [(.int (4 : Int32)), (.int i6)])) _
  refine XS.iand X0.here hx rfl (hb hby at_118) rfl ?_
  show Steps p.tables e below (T0.setTop (mkF m 119 #[s0, s1, s2, s3, s4, s5, .val (.int i6), s7, s8, s9, s10, s11] [(.int (i6 &&& (4 : Int32)))])) _
  refine XS.ifYes X0.here hx rfl (pc0 := 119) (pc' := 130) rfl (hb hby at_119) rfl ((if0 _ _).trans (teq hc119).1) (by decide) (by decide) ?_
  exact kt
set_option maxRecDepth 65536 in
set_option maxHeartbeats 40000000 in
theorem tn0_115_130 {p : Program} {l : Launch} {e : Env} {s : State} {m : MethodId} {args : Array Value} {below : List Frame} {meth : Method} {c : Code} {T0 : State} {locs : List Loc} {Z : State} {a0 : Array Value} {h0 : Heap} {n0 : Nat} (s0 : Slot) (s1 : Slot) (s2 : Slot) (s3 : Slot) (s4 : Slot) (s5 : Slot) (i6 : Int32) (j7 : Int64) (s9 : Slot) (s10 : Slot) (o11 : Addr) (ca pa : Addr) (n : Nat) (f : Nat → Nat) (g : Nat → Int64)
    (X0 : Stand p l e room_1 s m args below meth c T0 locs 3 11) (hx : p.tables.exec = Jvm.exec) (hZ : Z.Warmed39 s.vm) (hw : ∀ d ∈ tables_1, d.before a0 Z = true) (hby : c.code = code) (hml : c.maxLocals = 12) (hown : s.vm.findClass "com/example/upweight/upweight/HeldTermsClearPinLaw" = some m.cls) (e0 : T0.heap = h0) (N0 : Fr n0 locs) (Z0 : n0 ≤ h0.size) (E_o11 : Exa Z h0 o11 "com/example/upweight/upweight/HeldTerms") (hc119 : ¬ ((i6 &&& (4 : Int32)) = (0 : Int32))) (HT : own_HT Z n0 h0 o11 ca pa n f g) (IV : own_INV 1 n f g) :
    ∃ (T' : State) (h' : Heap) (locs' : List Loc), Stand p l e room_1 s m args below meth c T' locs' 3 11 ∧ T'.heap = h' ∧ Fr n0 locs' ∧ n0 ≤ h'.size ∧ (∃ n' f' g', own_HT Z n0 h' o11 ca pa n' f' g' ∧ own_INV 2 n' f' g') ∧
      ∀ target, Steps p.tables e below (T'.setTop (mkF m 130 #[s0, s1, s2, s3, s4, s5, .val (.int i6), .val (.long j7), .second, s9, s10, .val (.ref o11)] [])) target → Steps p.tables e below (T0.setTop (mkF m 115 #[s0, s1, s2, s3, s4, s5, .val (.int i6), .val (.long j7), .second, s9, s10, .val (.ref o11)] [])) target := by
  obtain ⟨cq5, kq5, q5a, q5b, q5c⟩ := isOf hZ e0 E_o11
  obtain ⟨_, _, ⟨T5, L5, k5, n5⟩, -, X5, ⟨Lc5, hQ5, l5, y5, z5⟩, st5⟩ := X0.virtualBack hx (y := (⟨"com/example/upweight/upweight/HeldTerms", "add", "(IJ)V"⟩ : MethodName)) (z := (⟨"com/example/upweight/upweight/HeldTerms", "add", "(IJ)V"⟩ : MethodName)) hown (mvT hZ (hw _ (List.mem_of_getElem? (i := 37) rfl))) (mvT hZ (hw _ (List.mem_of_getElem? (i := 38) rfl))) (notFace_of_selects (args := #[]) (mvT hZ (hw _ (List.mem_of_getElem? (i := 40) rfl)))) (mvT hZ (hw _ (List.mem_of_getElem? (i := 40) rfl))) (mvT hZ (hw _ (List.mem_of_getElem? (i := 39) rfl))) (by decide) (backOf (W := 0) (rm7 l Z a0 hw [] o11 ca pa n f g 2 j7 h0 n0 Z0 HT (Nat.lt_of_le_of_lt IV.1 (by decide)) (by decide)) hZ (hw _ (List.mem_of_getElem? (i := 41) rfl)) (hw _ (List.mem_of_getElem? (i := 7) rfl)) (by decide) (by decide)) q5a q5c (g := (mkF m 127 #[s0, s1, s2, s3, s4, s5, .val (.int i6), .val (.long j7), .second, s9, s10, .val (.ref o11)] [(.long j7), (.int (2 : Int32)), (.ref o11)])) rfl (by rw [hml]; rfl) (Steps.refl _) (argsL := [(.int (2 : Int32)), (.long j7)]) (rest := []) (lenOf pd_0_5 rfl) rfl (by show 2 * 0 + _ ≤ _; exact Nat.le_of_eq rfl) (hb hby at_127) (fun _ _ => ⟨rfl, e0, (Nat.le_of_ble_eq_true rfl), (Nat.le_of_ble_eq_true rfl)⟩)
  dsimp only [Pt.U, Pt.locs, Pt.cells, Pt.slots] at X5 l5 y5 z5 st5 hQ5
  subst l5 y5 z5
  obtain ⟨rfl, N5q, K5, HT5⟩ := hQ5
  have N5 := Fr.app N0 N5q
  refine ⟨T5, _, _, X5, rfl, N5, (Nat.le_trans Z0 K5.1), ⟨_, _, _, HT5, IV.add _ _⟩, fun target kt => ?_⟩
  show Steps p.tables e below (T0.setTop (mkF m 115 #[s0, s1, s2, s3, s4, s5, .val (.int i6), .val (.long j7), .second, s9, s10, .val (.ref o11)] [])) _
  refine XS.iload X0.here hx rfl (hb hby at_115) rfl ?_
  show Steps p.tables e below (T0.setTop (mkF m 117 #[s0, s1, s2, s3, s4, s5, .val (.int i6), .val (.long j7), .second, s9, s10, .val (.ref o11)] [(.int i6)])) _
  refine XS.iconst X0.here hx rfl (hb hby at_117) ?_
  show Steps p.tables e below (T0.setTop (mkF m 118 #[s0, s1, s2, s3, s4, s5, .val (.int i6), .val (.long j7), .second, s9, s10, .val (.ref o11)] [(.int (4 : Int32)), (.int i6)])) _
  refine XS.iand X0.here hx rfl (hb hby at_118) rfl ?_
  show Steps p.tables e below (T0.setTop (mkF m 119 #[s0, s1, s2, s3, s4, s5, .val (.int i6), .val (.long j7), .second, s9, s10, .val (.ref o11)] [(.int (i6 &&& (4 : Int32)))])) _
  refine XS.ifNo X0.here hx rfl (hb hby at_119) rfl ((if0 _ _).trans (feq hc119).1) ?_
  show Steps p.tables e below (T0.setTop (mkF m 122 #[s0, s1, s2, s3, s4, s5, .val (.int i6), .val (.long j7), .second, s9, s10, .val (.ref o11)] [])) _
  refine XS.aload X0.here hx rfl (hb hby at_122) rfl rfl ?_
  show Steps p.tables e below (T0.setTop (mkF m 124 #[s0, s1, s2, s3, s4, s5, .val (.int i6), .val (.long j7), .second, s9, s10, .val (.ref o11)] [(.ref o11)])) _
  refine XS.iconst X0.here hx rfl (hb hby at_124) ?_
  show Steps p.tables e below (T0.setTop (mkF m 125 #[s0, s1, s2, s3, s4, s5, .val (.int i6), .val (.long j7), .second, s9, s10, .val (.ref o11)] [(.int (2 : Int32)), (.ref o11)])) _
  refine XS.lload X0.here hx rfl (hb hby at_125) rfl ?_
  show Steps p.tables e below (T0.setTop (mkF m 127 #[s0, s1, s2, s3, s4, s5, .val (.int i6), .val (.long j7), .second, s9, s10, .val (.ref o11)] [(.long j7), (.int (2 : Int32)), (.ref o11)])) _
  refine st5.trans ?_
  exact kt
set_option maxRecDepth 65536 in
set_option maxHeartbeats 40000000 in
theorem sk0_130_145 {p : Program} {l : Launch} {e : Env} {R : Room} {s : State} {m : MethodId} {args : Array Value} {below : List Frame} {meth : Method} {c : Code} {T0 : State} {locs : List Loc} {cells slots : Nat} {Z : State} {a0 : Array Value} {h0 : Heap} (s0 : Slot) (s1 : Slot) (s2 : Slot) (s3 : Slot) (s4 : Slot) (s5 : Slot) (i6 : Int32) (s7 : Slot) (s8 : Slot) (s9 : Slot) (s10 : Slot) (s11 : Slot)
    (X0 : Stand p l e R s m args below meth c T0 locs cells slots) (hx : p.tables.exec = Jvm.exec) (hZ : Z.Warmed39 s.vm) (hw : ∀ d ∈ tables_1, d.before a0 Z = true) (hby : c.code = code) (hml : c.maxLocals = 12) (hown : s.vm.findClass "com/example/upweight/upweight/HeldTermsClearPinLaw" = some m.cls) (e0 : T0.heap = h0) (hc134 : (i6 &&& (2 : Int32)) = (0 : Int32)) :
    ∃ (T' : State), Stand p l e R s m args below meth c T' locs cells slots ∧ T'.heap = h0 ∧
      ∀ target, Steps p.tables e below (T'.setTop (mkF m 145 #[s0, s1, s2, s3, s4, s5, .val (.int i6), s7, s8, s9, s10, s11] [])) target → Steps p.tables e below (T0.setTop (mkF m 130 #[s0, s1, s2, s3, s4, s5, .val (.int i6), s7, s8, s9, s10, s11] [])) target := by

  refine ⟨T0, X0, e0, fun target kt => ?_⟩
  show Steps p.tables e below (T0.setTop (mkF m 130 #[s0, s1, s2, s3, s4, s5, .val (.int i6), s7, s8, s9, s10, s11] [])) _
  refine XS.iload X0.here hx rfl (hb hby at_130) rfl ?_
  show Steps p.tables e below (T0.setTop (mkF m 132 #[s0, s1, s2, s3, s4, s5, .val (.int i6), s7, s8, s9, s10, s11] [(.int i6)])) _
  refine XS.iconst X0.here hx rfl (hb hby at_132) ?_
  show Steps p.tables e below (T0.setTop (mkF m 133 #[s0, s1, s2, s3, s4, s5, .val (.int i6), s7, s8, s9, s10, s11] [(.int (2 : Int32)), (.int i6)])) _
  refine XS.iand X0.here hx rfl (hb hby at_133) rfl ?_
  show Steps p.tables e below (T0.setTop (mkF m 134 #[s0, s1, s2, s3, s4, s5, .val (.int i6), s7, s8, s9, s10, s11] [(.int (i6 &&& (2 : Int32)))])) _
  refine XS.ifYes X0.here hx rfl (pc0 := 134) (pc' := 145) rfl (hb hby at_134) rfl ((if0 _ _).trans (teq hc134).1) (by decide) (by decide) ?_
  exact kt
set_option maxRecDepth 65536 in
set_option maxHeartbeats 40000000 in
theorem tn0_130_145 {p : Program} {l : Launch} {e : Env} {s : State} {m : MethodId} {args : Array Value} {below : List Frame} {meth : Method} {c : Code} {T0 : State} {locs : List Loc} {Z : State} {a0 : Array Value} {h0 : Heap} {n0 : Nat} (s0 : Slot) (s1 : Slot) (s2 : Slot) (s3 : Slot) (s4 : Slot) (s5 : Slot) (i6 : Int32) (s7 : Slot) (s8 : Slot) (j9 : Int64) (o11 : Addr) (ca pa : Addr) (n : Nat) (f : Nat → Nat) (g : Nat → Int64)
    (X0 : Stand p l e room_1 s m args below meth c T0 locs 3 11) (hx : p.tables.exec = Jvm.exec) (hZ : Z.Warmed39 s.vm) (hw : ∀ d ∈ tables_1, d.before a0 Z = true) (hby : c.code = code) (hml : c.maxLocals = 12) (hown : s.vm.findClass "com/example/upweight/upweight/HeldTermsClearPinLaw" = some m.cls) (e0 : T0.heap = h0) (N0 : Fr n0 locs) (Z0 : n0 ≤ h0.size) (E_o11 : Exa Z h0 o11 "com/example/upweight/upweight/HeldTerms") (hc134 : ¬ ((i6 &&& (2 : Int32)) = (0 : Int32))) (HT : own_HT Z n0 h0 o11 ca pa n f g) (IV : own_INV 2 n f g) :
    ∃ (T' : State) (h' : Heap) (locs' : List Loc), Stand p l e room_1 s m args below meth c T' locs' 3 11 ∧ T'.heap = h' ∧ Fr n0 locs' ∧ n0 ≤ h'.size ∧ (∃ n' f' g', own_HT Z n0 h' o11 ca pa n' f' g' ∧ own_INV 3 n' f' g') ∧
      ∀ target, Steps p.tables e below (T'.setTop (mkF m 145 #[s0, s1, s2, s3, s4, s5, .val (.int i6), s7, s8, .val (.long j9), .second, .val (.ref o11)] [])) target → Steps p.tables e below (T0.setTop (mkF m 130 #[s0, s1, s2, s3, s4, s5, .val (.int i6), s7, s8, .val (.long j9), .second, .val (.ref o11)] [])) target := by
  obtain ⟨cq5, kq5, q5a, q5b, q5c⟩ := isOf hZ e0 E_o11
  obtain ⟨_, _, ⟨T5, L5, k5, n5⟩, -, X5, ⟨Lc5, hQ5, l5, y5, z5⟩, st5⟩ := X0.virtualBack hx (y := (⟨"com/example/upweight/upweight/HeldTerms", "add", "(IJ)V"⟩ : MethodName)) (z := (⟨"com/example/upweight/upweight/HeldTerms", "add", "(IJ)V"⟩ : MethodName)) hown (mvT hZ (hw _ (List.mem_of_getElem? (i := 37) rfl))) (mvT hZ (hw _ (List.mem_of_getElem? (i := 38) rfl))) (notFace_of_selects (args := #[]) (mvT hZ (hw _ (List.mem_of_getElem? (i := 40) rfl)))) (mvT hZ (hw _ (List.mem_of_getElem? (i := 40) rfl))) (mvT hZ (hw _ (List.mem_of_getElem? (i := 39) rfl))) (by decide) (backOf (W := 0) (rm7 l Z a0 hw [] o11 ca pa n f g 1 j9 h0 n0 Z0 HT (Nat.lt_of_le_of_lt IV.1 (by decide)) (by decide)) hZ (hw _ (List.mem_of_getElem? (i := 41) rfl)) (hw _ (List.mem_of_getElem? (i := 7) rfl)) (by decide) (by decide)) q5a q5c (g := (mkF m 142 #[s0, s1, s2, s3, s4, s5, .val (.int i6), s7, s8, .val (.long j9), .second, .val (.ref o11)] [(.long j9), (.int (1 : Int32)), (.ref o11)])) rfl (by rw [hml]; rfl) (Steps.refl _) (argsL := [(.int (1 : Int32)), (.long j9)]) (rest := []) (lenOf pd_0_5 rfl) rfl (by show 2 * 0 + _ ≤ _; exact Nat.le_of_eq rfl) (hb hby at_142) (fun _ _ => ⟨rfl, e0, (Nat.le_of_ble_eq_true rfl), (Nat.le_of_ble_eq_true rfl)⟩)
  dsimp only [Pt.U, Pt.locs, Pt.cells, Pt.slots] at X5 l5 y5 z5 st5 hQ5
  subst l5 y5 z5
  obtain ⟨rfl, N5q, K5, HT5⟩ := hQ5
  have N5 := Fr.app N0 N5q
  refine ⟨T5, _, _, X5, rfl, N5, (Nat.le_trans Z0 K5.1), ⟨_, _, _, HT5, IV.add _ _⟩, fun target kt => ?_⟩
  show Steps p.tables e below (T0.setTop (mkF m 130 #[s0, s1, s2, s3, s4, s5, .val (.int i6), s7, s8, .val (.long j9), .second, .val (.ref o11)] [])) _
  refine XS.iload X0.here hx rfl (hb hby at_130) rfl ?_
  show Steps p.tables e below (T0.setTop (mkF m 132 #[s0, s1, s2, s3, s4, s5, .val (.int i6), s7, s8, .val (.long j9), .second, .val (.ref o11)] [(.int i6)])) _
  refine XS.iconst X0.here hx rfl (hb hby at_132) ?_
  show Steps p.tables e below (T0.setTop (mkF m 133 #[s0, s1, s2, s3, s4, s5, .val (.int i6), s7, s8, .val (.long j9), .second, .val (.ref o11)] [(.int (2 : Int32)), (.int i6)])) _
  refine XS.iand X0.here hx rfl (hb hby at_133) rfl ?_
  show Steps p.tables e below (T0.setTop (mkF m 134 #[s0, s1, s2, s3, s4, s5, .val (.int i6), s7, s8, .val (.long j9), .second, .val (.ref o11)] [(.int (i6 &&& (2 : Int32)))])) _
  refine XS.ifNo X0.here hx rfl (hb hby at_134) rfl ((if0 _ _).trans (feq hc134).1) ?_
  show Steps p.tables e below (T0.setTop (mkF m 137 #[s0, s1, s2, s3, s4, s5, .val (.int i6), s7, s8, .val (.long j9), .second, .val (.ref o11)] [])) _
  refine XS.aload X0.here hx rfl (hb hby at_137) rfl rfl ?_
  show Steps p.tables e below (T0.setTop (mkF m 139 #[s0, s1, s2, s3, s4, s5, .val (.int i6), s7, s8, .val (.long j9), .second, .val (.ref o11)] [(.ref o11)])) _
  refine XS.iconst X0.here hx rfl (hb hby at_139) ?_
  show Steps p.tables e below (T0.setTop (mkF m 140 #[s0, s1, s2, s3, s4, s5, .val (.int i6), s7, s8, .val (.long j9), .second, .val (.ref o11)] [(.int (1 : Int32)), (.ref o11)])) _
  refine XS.lload X0.here hx rfl (hb hby at_140) rfl ?_
  show Steps p.tables e below (T0.setTop (mkF m 142 #[s0, s1, s2, s3, s4, s5, .val (.int i6), s7, s8, .val (.long j9), .second, .val (.ref o11)] [(.long j9), (.int (1 : Int32)), (.ref o11)])) _
  refine st5.trans ?_
  exact kt
set_option maxRecDepth 65536 in
set_option maxHeartbeats 40000000 in
theorem sk0_145_160 {p : Program} {l : Launch} {e : Env} {R : Room} {s : State} {m : MethodId} {args : Array Value} {below : List Frame} {meth : Method} {c : Code} {T0 : State} {locs : List Loc} {cells slots : Nat} {Z : State} {a0 : Array Value} {h0 : Heap} (s0 : Slot) (s1 : Slot) (s2 : Slot) (s3 : Slot) (s4 : Slot) (s5 : Slot) (i6 : Int32) (s7 : Slot) (s8 : Slot) (s9 : Slot) (s10 : Slot) (s11 : Slot)
    (X0 : Stand p l e R s m args below meth c T0 locs cells slots) (hx : p.tables.exec = Jvm.exec) (hZ : Z.Warmed39 s.vm) (hw : ∀ d ∈ tables_1, d.before a0 Z = true) (hby : c.code = code) (hml : c.maxLocals = 12) (hown : s.vm.findClass "com/example/upweight/upweight/HeldTermsClearPinLaw" = some m.cls) (e0 : T0.heap = h0) (hc149 : (i6 &&& (1 : Int32)) = (0 : Int32)) :
    ∃ (T' : State), Stand p l e R s m args below meth c T' locs cells slots ∧ T'.heap = h0 ∧
      ∀ target, Steps p.tables e below (T'.setTop (mkF m 160 #[s0, s1, s2, s3, s4, s5, .val (.int i6), s7, s8, s9, s10, s11] [])) target → Steps p.tables e below (T0.setTop (mkF m 145 #[s0, s1, s2, s3, s4, s5, .val (.int i6), s7, s8, s9, s10, s11] [])) target := by

  refine ⟨T0, X0, e0, fun target kt => ?_⟩
  show Steps p.tables e below (T0.setTop (mkF m 145 #[s0, s1, s2, s3, s4, s5, .val (.int i6), s7, s8, s9, s10, s11] [])) _
  refine XS.iload X0.here hx rfl (hb hby at_145) rfl ?_
  show Steps p.tables e below (T0.setTop (mkF m 147 #[s0, s1, s2, s3, s4, s5, .val (.int i6), s7, s8, s9, s10, s11] [(.int i6)])) _
  refine XS.iconst X0.here hx rfl (hb hby at_147) ?_
  show Steps p.tables e below (T0.setTop (mkF m 148 #[s0, s1, s2, s3, s4, s5, .val (.int i6), s7, s8, s9, s10, s11] [(.int (1 : Int32)), (.int i6)])) _
  refine XS.iand X0.here hx rfl (hb hby at_148) rfl ?_
  show Steps p.tables e below (T0.setTop (mkF m 149 #[s0, s1, s2, s3, s4, s5, .val (.int i6), s7, s8, s9, s10, s11] [(.int (i6 &&& (1 : Int32)))])) _
  refine XS.ifYes X0.here hx rfl (pc0 := 149) (pc' := 160) rfl (hb hby at_149) rfl ((if0 _ _).trans (teq hc149).1) (by decide) (by decide) ?_
  exact kt
set_option maxRecDepth 65536 in
set_option maxHeartbeats 40000000 in
theorem tn0_145_160 {p : Program} {l : Launch} {e : Env} {s : State} {m : MethodId} {args : Array Value} {below : List Frame} {meth : Method} {c : Code} {T0 : State} {locs : List Loc} {Z : State} {a0 : Array Value} {h0 : Heap} {n0 : Nat} (s0 : Slot) (s1 : Slot) (s2 : Slot) (s3 : Slot) (s4 : Slot) (s5 : Slot) (i6 : Int32) (j7 : Int64) (s9 : Slot) (s10 : Slot) (o11 : Addr) (ca pa : Addr) (n : Nat) (f : Nat → Nat) (g : Nat → Int64)
    (X0 : Stand p l e room_1 s m args below meth c T0 locs 3 11) (hx : p.tables.exec = Jvm.exec) (hZ : Z.Warmed39 s.vm) (hw : ∀ d ∈ tables_1, d.before a0 Z = true) (hby : c.code = code) (hml : c.maxLocals = 12) (hown : s.vm.findClass "com/example/upweight/upweight/HeldTermsClearPinLaw" = some m.cls) (e0 : T0.heap = h0) (N0 : Fr n0 locs) (Z0 : n0 ≤ h0.size) (E_o11 : Exa Z h0 o11 "com/example/upweight/upweight/HeldTerms") (hc149 : ¬ ((i6 &&& (1 : Int32)) = (0 : Int32))) (HT : own_HT Z n0 h0 o11 ca pa n f g) (IV : own_INV 3 n f g) :
    ∃ (T' : State) (h' : Heap) (locs' : List Loc), Stand p l e room_1 s m args below meth c T' locs' 3 11 ∧ T'.heap = h' ∧ Fr n0 locs' ∧ n0 ≤ h'.size ∧ (∃ n' f' g', own_HT Z n0 h' o11 ca pa n' f' g' ∧ own_INV 4 n' f' g') ∧
      ∀ target, Steps p.tables e below (T'.setTop (mkF m 160 #[s0, s1, s2, s3, s4, s5, .val (.int i6), .val (.long j7), .second, s9, s10, .val (.ref o11)] [])) target → Steps p.tables e below (T0.setTop (mkF m 145 #[s0, s1, s2, s3, s4, s5, .val (.int i6), .val (.long j7), .second, s9, s10, .val (.ref o11)] [])) target := by
  obtain ⟨cq5, kq5, q5a, q5b, q5c⟩ := isOf hZ e0 E_o11
  obtain ⟨_, _, ⟨T5, L5, k5, n5⟩, -, X5, ⟨Lc5, hQ5, l5, y5, z5⟩, st5⟩ := X0.virtualBack hx (y := (⟨"com/example/upweight/upweight/HeldTerms", "add", "(IJ)V"⟩ : MethodName)) (z := (⟨"com/example/upweight/upweight/HeldTerms", "add", "(IJ)V"⟩ : MethodName)) hown (mvT hZ (hw _ (List.mem_of_getElem? (i := 37) rfl))) (mvT hZ (hw _ (List.mem_of_getElem? (i := 38) rfl))) (notFace_of_selects (args := #[]) (mvT hZ (hw _ (List.mem_of_getElem? (i := 40) rfl)))) (mvT hZ (hw _ (List.mem_of_getElem? (i := 40) rfl))) (mvT hZ (hw _ (List.mem_of_getElem? (i := 39) rfl))) (by decide) (backOf (W := 0) (rm7 l Z a0 hw [] o11 ca pa n f g 0 j7 h0 n0 Z0 HT (Nat.lt_of_le_of_lt IV.1 (by decide)) (by decide)) hZ (hw _ (List.mem_of_getElem? (i := 41) rfl)) (hw _ (List.mem_of_getElem? (i := 7) rfl)) (by decide) (by decide)) q5a q5c (g := (mkF m 157 #[s0, s1, s2, s3, s4, s5, .val (.int i6), .val (.long j7), .second, s9, s10, .val (.ref o11)] [(.long j7), (.int (0 : Int32)), (.ref o11)])) rfl (by rw [hml]; rfl) (Steps.refl _) (argsL := [(.int (0 : Int32)), (.long j7)]) (rest := []) (lenOf pd_0_5 rfl) rfl (by show 2 * 0 + _ ≤ _; exact Nat.le_of_eq rfl) (hb hby at_157) (fun _ _ => ⟨rfl, e0, (Nat.le_of_ble_eq_true rfl), (Nat.le_of_ble_eq_true rfl)⟩)
  dsimp only [Pt.U, Pt.locs, Pt.cells, Pt.slots] at X5 l5 y5 z5 st5 hQ5
  subst l5 y5 z5
  obtain ⟨rfl, N5q, K5, HT5⟩ := hQ5
  have N5 := Fr.app N0 N5q
  refine ⟨T5, _, _, X5, rfl, N5, (Nat.le_trans Z0 K5.1), ⟨_, _, _, HT5, IV.add _ _⟩, fun target kt => ?_⟩
  show Steps p.tables e below (T0.setTop (mkF m 145 #[s0, s1, s2, s3, s4, s5, .val (.int i6), .val (.long j7), .second, s9, s10, .val (.ref o11)] [])) _
  refine XS.iload X0.here hx rfl (hb hby at_145) rfl ?_
  show Steps p.tables e below (T0.setTop (mkF m 147 #[s0, s1, s2, s3, s4, s5, .val (.int i6), .val (.long j7), .second, s9, s10, .val (.ref o11)] [(.int i6)])) _
  refine XS.iconst X0.here hx rfl (hb hby at_147) ?_
  show Steps p.tables e below (T0.setTop (mkF m 148 #[s0, s1, s2, s3, s4, s5, .val (.int i6), .val (.long j7), .second, s9, s10, .val (.ref o11)] [(.int (1 : Int32)), (.int i6)])) _
  refine XS.iand X0.here hx rfl (hb hby at_148) rfl ?_
  show Steps p.tables e below (T0.setTop (mkF m 149 #[s0, s1, s2, s3, s4, s5, .val (.int i6), .val (.long j7), .second, s9, s10, .val (.ref o11)] [(.int (i6 &&& (1 : Int32)))])) _
  refine XS.ifNo X0.here hx rfl (hb hby at_149) rfl ((if0 _ _).trans (feq hc149).1) ?_
  show Steps p.tables e below (T0.setTop (mkF m 152 #[s0, s1, s2, s3, s4, s5, .val (.int i6), .val (.long j7), .second, s9, s10, .val (.ref o11)] [])) _
  refine XS.aload X0.here hx rfl (hb hby at_152) rfl rfl ?_
  show Steps p.tables e below (T0.setTop (mkF m 154 #[s0, s1, s2, s3, s4, s5, .val (.int i6), .val (.long j7), .second, s9, s10, .val (.ref o11)] [(.ref o11)])) _
  refine XS.iconst X0.here hx rfl (hb hby at_154) ?_
  show Steps p.tables e below (T0.setTop (mkF m 155 #[s0, s1, s2, s3, s4, s5, .val (.int i6), .val (.long j7), .second, s9, s10, .val (.ref o11)] [(.int (0 : Int32)), (.ref o11)])) _
  refine XS.lload X0.here hx rfl (hb hby at_155) rfl ?_
  show Steps p.tables e below (T0.setTop (mkF m 157 #[s0, s1, s2, s3, s4, s5, .val (.int i6), .val (.long j7), .second, s9, s10, .val (.ref o11)] [(.long j7), (.int (0 : Int32)), (.ref o11)])) _
  refine st5.trans ?_
  exact kt
theorem pd_0_2 : parseMethodDescriptor "()V" = some ⟨[], none⟩ := by decide +kernel
theorem pd_0_3 : parseMethodDescriptor "()I" = some ⟨[], some .int⟩ := by decide +kernel
theorem pd_0_4 : parseMethodDescriptor "(I)J" = some ⟨[.int], some .long⟩ := by decide +kernel
set_option maxRecDepth 65536 in
set_option maxHeartbeats 40000000 in
theorem tn0_160_222 {p : Program} {l : Launch} {e : Env} {s : State} {m : MethodId} {args : Array Value} {below : List Frame} {meth : Method} {c : Code} {T0 : State} {locs : List Loc} {Z : State} {a0 : Array Value} {h0 : Heap} {n0 : Nat} (s0 : Slot) (s1 : Slot) (s2 : Slot) (s3 : Slot) (s4 : Slot) (s5 : Slot) (s6 : Slot) (s7 : Slot) (s8 : Slot) (s9 : Slot) (s10 : Slot) (o11 : Addr) (ca pa : Addr) (n : Nat) (f : Nat → Nat) (g : Nat → Int64)
    (X0 : Stand p l e room_1 s m args below meth c T0 locs 3 11) (hx : p.tables.exec = Jvm.exec) (hZ : Z.Warmed39 s.vm) (hw : ∀ d ∈ tables_1, d.before a0 Z = true) (hby : c.code = code) (hml : c.maxLocals = 12) (hown : s.vm.findClass "com/example/upweight/upweight/HeldTermsClearPinLaw" = some m.cls) (e0 : T0.heap = h0) (N0 : Fr n0 locs) (Z0 : n0 ≤ h0.size) (E_o11 : Exa Z h0 o11 "com/example/upweight/upweight/HeldTerms") (HT : own_HT Z n0 h0 o11 ca pa n f g) (IV : own_INV 4 n f g) :
    ∃ (T' : State) (h' : Heap) (locs' : List Loc), Stand p l e room_1 s m args below meth c T' locs' 3 11 ∧ T'.heap = h' ∧ Fr n0 locs' ∧ n0 ≤ h'.size ∧ (True) ∧
      ∀ target, Steps p.tables e below (T'.setTop (mkF m 222 #[s0, s1, s2, s3, s4, s5, s6, s7, s8, s9, s10, .val (.ref o11)] [(.int (1 : Int32))])) target → Steps p.tables e below (T0.setTop (mkF m 160 #[s0, s1, s2, s3, s4, s5, s6, s7, s8, s9, s10, .val (.ref o11)] [])) target := by
  obtain ⟨cq5, kq5, q5a, q5b, q5c⟩ := isOf hZ e0 E_o11
  obtain ⟨_, _, ⟨T5, L5, k5, n5⟩, -, X5, ⟨Lc5, hQ5, l5, y5, z5⟩, st5⟩ := X0.virtualBack hx (y := (⟨"com/example/upweight/upweight/HeldTerms", "clear", "()V"⟩ : MethodName)) (z := (⟨"com/example/upweight/upweight/HeldTerms", "clear", "()V"⟩ : MethodName)) hown (mvT hZ (hw _ (List.mem_of_getElem? (i := 20) rfl))) (mvT hZ (hw _ (List.mem_of_getElem? (i := 21) rfl))) (notFace_of_selects (args := #[]) (mvT hZ (hw _ (List.mem_of_getElem? (i := 23) rfl)))) (mvT hZ (hw _ (List.mem_of_getElem? (i := 23) rfl))) (mvT hZ (hw _ (List.mem_of_getElem? (i := 22) rfl))) (by decide) (backOf (W := 0) (rm4 l Z a0 hw [] o11 ca pa n f g h0 n0 Z0 HT (Nat.le_trans IV.1 (by decide))) hZ (hw _ (List.mem_of_getElem? (i := 24) rfl)) (hw _ (List.mem_of_getElem? (i := 7) rfl)) (by decide) (by decide)) q5a q5c (g := (mkF m 162 #[s0, s1, s2, s3, s4, s5, s6, s7, s8, s9, s10, .val (.ref o11)] [(.ref o11)])) rfl (by rw [hml]; rfl) (Steps.refl _) (argsL := []) (rest := []) (lenOf pd_0_2 rfl) rfl (by show 2 * 0 + _ ≤ _; exact Nat.le_of_eq rfl) (hb hby at_162) (fun _ _ => ⟨rfl, e0, (Nat.le_of_ble_eq_true rfl), (Nat.le_of_ble_eq_true rfl)⟩)
  dsimp only [Pt.U, Pt.locs, Pt.cells, Pt.slots] at X5 l5 y5 z5 st5 hQ5
  subst l5 y5 z5
  obtain ⟨rfl, N5q, K5, HT5⟩ := hQ5
  have Z5 : n0 ≤ T5.heap.size := Nat.le_trans Z0 K5.1
  have hz : ∀ i, own_clr f n g i = 0 := fun i => own_clr_z f g i n (IV.2 i)
  have N5 := Fr.app N0 N5q
  obtain ⟨cq6, kq6, q6a, q6b, q6c⟩ := isOf hZ rfl HT5.1
  obtain ⟨_, _, ⟨T6, L6, k6, n6⟩, -, X6, ⟨Lc6, hQ6, l6, y6, z6⟩, st6⟩ := X5.virtualBack hx (y := (⟨"com/example/upweight/upweight/HeldTerms", "size", "()I"⟩ : MethodName)) (z := (⟨"com/example/upweight/upweight/HeldTerms", "size", "()I"⟩ : MethodName)) hown (mvT hZ (hw _ (List.mem_of_getElem? (i := 27) rfl))) (mvT hZ (hw _ (List.mem_of_getElem? (i := 28) rfl))) (notFace_of_selects (args := #[]) (mvT hZ (hw _ (List.mem_of_getElem? (i := 30) rfl)))) (mvT hZ (hw _ (List.mem_of_getElem? (i := 30) rfl))) (mvT hZ (hw _ (List.mem_of_getElem? (i := 29) rfl))) (by decide) (backOf (W := 0) (rm5 l Z a0 hw [] o11 (Int32.ofNat 0) T5.heap n0 Z5 HT5.2.2.2.1) hZ (hw _ (List.mem_of_getElem? (i := 31) rfl)) (hw _ (List.mem_of_getElem? (i := 7) rfl)) (by decide) (by decide)) q6a q6c (g := (mkF m 167 #[s0, s1, s2, s3, s4, s5, s6, s7, s8, s9, s10, .val (.ref o11)] [(.ref o11)])) rfl (by rw [hml]; rfl) (Steps.refl _) (argsL := []) (rest := []) (lenOf pd_0_3 rfl) rfl (by show 2 * 0 + _ ≤ _; exact Nat.le_of_eq rfl) (hb hby at_167) (fun _ _ => ⟨rfl, rfl, (Nat.le_of_ble_eq_true rfl), (Nat.le_of_ble_eq_true rfl)⟩)
  dsimp only [Pt.U, Pt.locs, Pt.cells, Pt.slots] at X6 l6 y6 z6 st6 hQ6
  subst l6 y6 z6
  obtain ⟨rfl, N6q, q6⟩ := hQ6
  have HT6 : own_HT Z n0 T6.heap o11 ca pa 0 f (own_clr f n g) := by rw [q6]; exact HT5
  have N6 := Fr.app N5 N6q
  obtain ⟨cq7, kq7, q7a, q7b, q7c⟩ := isOf hZ rfl HT6.1
  obtain ⟨_, _, ⟨T7, L7, k7, n7⟩, -, X7, ⟨Lc7, hQ7, l7, y7, z7⟩, st7⟩ := X6.virtualBack hx (y := (⟨"com/example/upweight/upweight/HeldTerms", "count", "(I)J"⟩ : MethodName)) (z := (⟨"com/example/upweight/upweight/HeldTerms", "count", "(I)J"⟩ : MethodName)) hown (mvT hZ (hw _ (List.mem_of_getElem? (i := 32) rfl))) (mvT hZ (hw _ (List.mem_of_getElem? (i := 33) rfl))) (notFace_of_selects (args := #[]) (mvT hZ (hw _ (List.mem_of_getElem? (i := 35) rfl)))) (mvT hZ (hw _ (List.mem_of_getElem? (i := 35) rfl))) (mvT hZ (hw _ (List.mem_of_getElem? (i := 34) rfl))) (by decide) (backOf (W := 0) (own_cnt l Z a0 hw [] o11 ca pa 0 f (own_clr f n g) 0 (by decide) T6.heap n0 (by rw [q6]; exact Z5) HT6) hZ (hw _ (List.mem_of_getElem? (i := 36) rfl)) (hw _ (List.mem_of_getElem? (i := 7) rfl)) (by decide) (by decide)) q7a q7c (g := (mkF m 176 #[s0, s1, s2, s3, s4, s5, s6, s7, s8, s9, s10, .val (.ref o11)] [(.int (0 : Int32)), (.ref o11)])) rfl (by rw [hml]; rfl) (Steps.refl _) (argsL := [(.int (0 : Int32))]) (rest := []) (lenOf pd_0_4 rfl) rfl (by show 2 * 0 + _ ≤ _; exact Nat.le_of_eq rfl) (hb hby at_176) (fun _ _ => ⟨rfl, rfl, (Nat.le_of_ble_eq_true rfl), (Nat.le_of_ble_eq_true rfl)⟩)
  dsimp only [Pt.U, Pt.locs, Pt.cells, Pt.slots] at X7 l7 y7 z7 st7 hQ7
  subst l7 y7 z7
  obtain ⟨rfl, N7q, q7⟩ := hQ7
  have HT7 : own_HT Z n0 T7.heap o11 ca pa 0 f (own_clr f n g) := by rw [q7]; exact HT6
  have N7 := Fr.app N6 N7q
  obtain ⟨cq8, kq8, q8a, q8b, q8c⟩ := isOf hZ rfl HT7.1
  obtain ⟨_, _, ⟨T8, L8, k8, n8⟩, -, X8, ⟨Lc8, hQ8, l8, y8, z8⟩, st8⟩ := X7.virtualBack hx (y := (⟨"com/example/upweight/upweight/HeldTerms", "count", "(I)J"⟩ : MethodName)) (z := (⟨"com/example/upweight/upweight/HeldTerms", "count", "(I)J"⟩ : MethodName)) hown (mvT hZ (hw _ (List.mem_of_getElem? (i := 32) rfl))) (mvT hZ (hw _ (List.mem_of_getElem? (i := 33) rfl))) (notFace_of_selects (args := #[]) (mvT hZ (hw _ (List.mem_of_getElem? (i := 35) rfl)))) (mvT hZ (hw _ (List.mem_of_getElem? (i := 35) rfl))) (mvT hZ (hw _ (List.mem_of_getElem? (i := 34) rfl))) (by decide) (backOf (W := 0) (own_cnt l Z a0 hw [] o11 ca pa 0 f (own_clr f n g) 1 (by decide) T7.heap n0 (by rw [q7, q6]; exact Z5) HT7) hZ (hw _ (List.mem_of_getElem? (i := 36) rfl)) (hw _ (List.mem_of_getElem? (i := 7) rfl)) (by decide) (by decide)) q8a q8c (g := (mkF m 187 #[s0, s1, s2, s3, s4, s5, s6, s7, s8, s9, s10, .val (.ref o11)] [(.int (1 : Int32)), (.ref o11)])) rfl (by rw [hml]; rfl) (Steps.refl _) (argsL := [(.int (1 : Int32))]) (rest := []) (lenOf pd_0_4 rfl) rfl (by show 2 * 0 + _ ≤ _; exact Nat.le_of_eq rfl) (hb hby at_187) (fun _ _ => ⟨rfl, rfl, (Nat.le_of_ble_eq_true rfl), (Nat.le_of_ble_eq_true rfl)⟩)
  dsimp only [Pt.U, Pt.locs, Pt.cells, Pt.slots] at X8 l8 y8 z8 st8 hQ8
  subst l8 y8 z8
  obtain ⟨rfl, N8q, q8⟩ := hQ8
  have HT8 : own_HT Z n0 T8.heap o11 ca pa 0 f (own_clr f n g) := by rw [q8]; exact HT7
  have N8 := Fr.app N7 N8q
  obtain ⟨cq9, kq9, q9a, q9b, q9c⟩ := isOf hZ rfl HT8.1
  obtain ⟨_, _, ⟨T9, L9, k9, n9⟩, -, X9, ⟨Lc9, hQ9, l9, y9, z9⟩, st9⟩ := X8.virtualBack hx (y := (⟨"com/example/upweight/upweight/HeldTerms", "count", "(I)J"⟩ : MethodName)) (z := (⟨"com/example/upweight/upweight/HeldTerms", "count", "(I)J"⟩ : MethodName)) hown (mvT hZ (hw _ (List.mem_of_getElem? (i := 32) rfl))) (mvT hZ (hw _ (List.mem_of_getElem? (i := 33) rfl))) (notFace_of_selects (args := #[]) (mvT hZ (hw _ (List.mem_of_getElem? (i := 35) rfl)))) (mvT hZ (hw _ (List.mem_of_getElem? (i := 35) rfl))) (mvT hZ (hw _ (List.mem_of_getElem? (i := 34) rfl))) (by decide) (backOf (W := 0) (own_cnt l Z a0 hw [] o11 ca pa 0 f (own_clr f n g) 2 (by decide) T8.heap n0 (by rw [q8, q7, q6]; exact Z5) HT8) hZ (hw _ (List.mem_of_getElem? (i := 36) rfl)) (hw _ (List.mem_of_getElem? (i := 7) rfl)) (by decide) (by decide)) q9a q9c (g := (mkF m 198 #[s0, s1, s2, s3, s4, s5, s6, s7, s8, s9, s10, .val (.ref o11)] [(.int (2 : Int32)), (.ref o11)])) rfl (by rw [hml]; rfl) (Steps.refl _) (argsL := [(.int (2 : Int32))]) (rest := []) (lenOf pd_0_4 rfl) rfl (by show 2 * 0 + _ ≤ _; exact Nat.le_of_eq rfl) (hb hby at_198) (fun _ _ => ⟨rfl, rfl, (Nat.le_of_ble_eq_true rfl), (Nat.le_of_ble_eq_true rfl)⟩)
  dsimp only [Pt.U, Pt.locs, Pt.cells, Pt.slots] at X9 l9 y9 z9 st9 hQ9
  subst l9 y9 z9
  obtain ⟨rfl, N9q, q9⟩ := hQ9
  have HT9 : own_HT Z n0 T9.heap o11 ca pa 0 f (own_clr f n g) := by rw [q9]; exact HT8
  have N9 := Fr.app N8 N9q
  obtain ⟨cq10, kq10, q10a, q10b, q10c⟩ := isOf hZ rfl HT9.1
  obtain ⟨_, _, ⟨T10, L10, k10, n10⟩, -, X10, ⟨Lc10, hQ10, l10, y10, z10⟩, st10⟩ := X9.virtualBack hx (y := (⟨"com/example/upweight/upweight/HeldTerms", "count", "(I)J"⟩ : MethodName)) (z := (⟨"com/example/upweight/upweight/HeldTerms", "count", "(I)J"⟩ : MethodName)) hown (mvT hZ (hw _ (List.mem_of_getElem? (i := 32) rfl))) (mvT hZ (hw _ (List.mem_of_getElem? (i := 33) rfl))) (notFace_of_selects (args := #[]) (mvT hZ (hw _ (List.mem_of_getElem? (i := 35) rfl)))) (mvT hZ (hw _ (List.mem_of_getElem? (i := 35) rfl))) (mvT hZ (hw _ (List.mem_of_getElem? (i := 34) rfl))) (by decide) (backOf (W := 0) (own_cnt l Z a0 hw [] o11 ca pa 0 f (own_clr f n g) 3 (by decide) T9.heap n0 (by rw [q9, q8, q7, q6]; exact Z5) HT9) hZ (hw _ (List.mem_of_getElem? (i := 36) rfl)) (hw _ (List.mem_of_getElem? (i := 7) rfl)) (by decide) (by decide)) q10a q10c (g := (mkF m 209 #[s0, s1, s2, s3, s4, s5, s6, s7, s8, s9, s10, .val (.ref o11)] [(.int (3 : Int32)), (.ref o11)])) rfl (by rw [hml]; rfl) (Steps.refl _) (argsL := [(.int (3 : Int32))]) (rest := []) (lenOf pd_0_4 rfl) rfl (by show 2 * 0 + _ ≤ _; exact Nat.le_of_eq rfl) (hb hby at_209) (fun _ _ => ⟨rfl, rfl, (Nat.le_of_ble_eq_true rfl), (Nat.le_of_ble_eq_true rfl)⟩)
  dsimp only [Pt.U, Pt.locs, Pt.cells, Pt.slots] at X10 l10 y10 z10 st10 hQ10
  subst l10 y10 z10
  obtain ⟨rfl, N10q, q10⟩ := hQ10
  have HT10 : own_HT Z n0 T10.heap o11 ca pa 0 f (own_clr f n g) := by rw [q10]; exact HT9
  have N10 := Fr.app N9 N10q
  refine ⟨T10, _, _, X10, rfl, N10, (by rw [q10, q9, q8, q7, q6]; exact Z5), trivial, fun target kt => ?_⟩
  show Steps p.tables e below (T0.setTop (mkF m 160 #[s0, s1, s2, s3, s4, s5, s6, s7, s8, s9, s10, .val (.ref o11)] [])) _
  refine XS.aload X0.here hx rfl (hb hby at_160) rfl rfl ?_
  show Steps p.tables e below (T0.setTop (mkF m 162 #[s0, s1, s2, s3, s4, s5, s6, s7, s8, s9, s10, .val (.ref o11)] [(.ref o11)])) _
  refine st5.trans ?_
  show Steps p.tables e below (T5.setTop (mkF m 165 #[s0, s1, s2, s3, s4, s5, s6, s7, s8, s9, s10, .val (.ref o11)] [])) _
  refine XS.aload X5.here hx rfl (hb hby at_165) rfl rfl ?_
  show Steps p.tables e below (T5.setTop (mkF m 167 #[s0, s1, s2, s3, s4, s5, s6, s7, s8, s9, s10, .val (.ref o11)] [(.ref o11)])) _
  refine st6.trans ?_
  show Steps p.tables e below (T6.setTop (mkF m 170 #[s0, s1, s2, s3, s4, s5, s6, s7, s8, s9, s10, .val (.ref o11)] [(.int (Int32.ofNat 0))])) _
  refine XS.ifNo X6.here hx rfl (hb hby at_170) rfl ((if0 _ _).trans (teq (rfl : (Int32.ofNat 0) = (0 : Int32))).2) ?_
  show Steps p.tables e below (T6.setTop (mkF m 173 #[s0, s1, s2, s3, s4, s5, s6, s7, s8, s9, s10, .val (.ref o11)] [])) _
  refine XS.aload X6.here hx rfl (hb hby at_173) rfl rfl ?_
  show Steps p.tables e below (T6.setTop (mkF m 175 #[s0, s1, s2, s3, s4, s5, s6, s7, s8, s9, s10, .val (.ref o11)] [(.ref o11)])) _
  refine XS.iconst X6.here hx rfl (hb hby at_175) ?_
  show Steps p.tables e below (T6.setTop (mkF m 176 #[s0, s1, s2, s3, s4, s5, s6, s7, s8, s9, s10, .val (.ref o11)] [(.int (0 : Int32)), (.ref o11)])) _
  refine st7.trans ?_
  show Steps p.tables e below (T7.setTop (mkF m 179 #[s0, s1, s2, s3, s4, s5, s6, s7, s8, s9, s10, .val (.ref o11)] [(.long (own_clr f n g 0))])) _
  refine XS.lconst X7.here hx rfl (hb hby at_179) ?_
  show Steps p.tables e below (T7.setTop (mkF m 180 #[s0, s1, s2, s3, s4, s5, s6, s7, s8, s9, s10, .val (.ref o11)] [(.long (0 : Int64)), (.long (own_clr f n g 0))])) _
  refine XS.lcmp X7.here hx rfl (hb hby at_180) rfl ?_
  show Steps p.tables e below (T7.setTop (mkF m 181 #[s0, s1, s2, s3, s4, s5, s6, s7, s8, s9, s10, .val (.ref o11)] [(.int (lcmpW (own_clr f n g 0) (0 : Int64)))])) _
  refine XS.ifNo X7.here hx rfl (hb hby at_181) rfl ((if0 _ _).trans (teq ((lw_eq _ _).mpr (hz 0) : (lcmpW (own_clr f n g 0) (0 : Int64)) = (0 : Int32))).2) ?_
  show Steps p.tables e below (T7.setTop (mkF m 184 #[s0, s1, s2, s3, s4, s5, s6, s7, s8, s9, s10, .val (.ref o11)] [])) _
  refine XS.aload X7.here hx rfl (hb hby at_184) rfl rfl ?_
  show Steps p.tables e below (T7.setTop (mkF m 186 #[s0, s1, s2, s3, s4, s5, s6, s7, s8, s9, s10, .val (.ref o11)] [(.ref o11)])) _
  refine XS.iconst X7.here hx rfl (hb hby at_186) ?_
  show Steps p.tables e below (T7.setTop (mkF m 187 #[s0, s1, s2, s3, s4, s5, s6, s7, s8, s9, s10, .val (.ref o11)] [(.int (1 : Int32)), (.ref o11)])) _
  refine st8.trans ?_
  show Steps p.tables e below (T8.setTop (mkF m 190 #[s0, s1, s2, s3, s4, s5, s6, s7, s8, s9, s10, .val (.ref o11)] [(.long (own_clr f n g 1))])) _
  refine XS.lconst X8.here hx rfl (hb hby at_190) ?_
  show Steps p.tables e below (T8.setTop (mkF m 191 #[s0, s1, s2, s3, s4, s5, s6, s7, s8, s9, s10, .val (.ref o11)] [(.long (0 : Int64)), (.long (own_clr f n g 1))])) _
  refine XS.lcmp X8.here hx rfl (hb hby at_191) rfl ?_
  show Steps p.tables e below (T8.setTop (mkF m 192 #[s0, s1, s2, s3, s4, s5, s6, s7, s8, s9, s10, .val (.ref o11)] [(.int (lcmpW (own_clr f n g 1) (0 : Int64)))])) _
  refine XS.ifNo X8.here hx rfl (hb hby at_192) rfl ((if0 _ _).trans (teq ((lw_eq _ _).mpr (hz 1) : (lcmpW (own_clr f n g 1) (0 : Int64)) = (0 : Int32))).2) ?_
  show Steps p.tables e below (T8.setTop (mkF m 195 #[s0, s1, s2, s3, s4, s5, s6, s7, s8, s9, s10, .val (.ref o11)] [])) _
  refine XS.aload X8.here hx rfl (hb hby at_195) rfl rfl ?_
  show Steps p.tables e below (T8.setTop (mkF m 197 #[s0, s1, s2, s3, s4, s5, s6, s7, s8, s9, s10, .val (.ref o11)] [(.ref o11)])) _
  refine XS.iconst X8.here hx rfl (hb hby at_197) ?_
  show Steps p.tables e below (T8.setTop (mkF m 198 #[s0, s1, s2, s3, s4, s5, s6, s7, s8, s9, s10, .val (.ref o11)] [(.int (2 : Int32)), (.ref o11)])) _
  refine st9.trans ?_
  show Steps p.tables e below (T9.setTop (mkF m 201 #[s0, s1, s2, s3, s4, s5, s6, s7, s8, s9, s10, .val (.ref o11)] [(.long (own_clr f n g 2))])) _
  refine XS.lconst X9.here hx rfl (hb hby at_201) ?_
  show Steps p.tables e below (T9.setTop (mkF m 202 #[s0, s1, s2, s3, s4, s5, s6, s7, s8, s9, s10, .val (.ref o11)] [(.long (0 : Int64)), (.long (own_clr f n g 2))])) _
  refine XS.lcmp X9.here hx rfl (hb hby at_202) rfl ?_
  show Steps p.tables e below (T9.setTop (mkF m 203 #[s0, s1, s2, s3, s4, s5, s6, s7, s8, s9, s10, .val (.ref o11)] [(.int (lcmpW (own_clr f n g 2) (0 : Int64)))])) _
  refine XS.ifNo X9.here hx rfl (hb hby at_203) rfl ((if0 _ _).trans (teq ((lw_eq _ _).mpr (hz 2) : (lcmpW (own_clr f n g 2) (0 : Int64)) = (0 : Int32))).2) ?_
  show Steps p.tables e below (T9.setTop (mkF m 206 #[s0, s1, s2, s3, s4, s5, s6, s7, s8, s9, s10, .val (.ref o11)] [])) _
  refine XS.aload X9.here hx rfl (hb hby at_206) rfl rfl ?_
  show Steps p.tables e below (T9.setTop (mkF m 208 #[s0, s1, s2, s3, s4, s5, s6, s7, s8, s9, s10, .val (.ref o11)] [(.ref o11)])) _
  refine XS.iconst X9.here hx rfl (hb hby at_208) ?_
  show Steps p.tables e below (T9.setTop (mkF m 209 #[s0, s1, s2, s3, s4, s5, s6, s7, s8, s9, s10, .val (.ref o11)] [(.int (3 : Int32)), (.ref o11)])) _
  refine st10.trans ?_
  show Steps p.tables e below (T10.setTop (mkF m 212 #[s0, s1, s2, s3, s4, s5, s6, s7, s8, s9, s10, .val (.ref o11)] [(.long (own_clr f n g 3))])) _
  refine XS.lconst X10.here hx rfl (hb hby at_212) ?_
  show Steps p.tables e below (T10.setTop (mkF m 213 #[s0, s1, s2, s3, s4, s5, s6, s7, s8, s9, s10, .val (.ref o11)] [(.long (0 : Int64)), (.long (own_clr f n g 3))])) _
  refine XS.lcmp X10.here hx rfl (hb hby at_213) rfl ?_
  show Steps p.tables e below (T10.setTop (mkF m 214 #[s0, s1, s2, s3, s4, s5, s6, s7, s8, s9, s10, .val (.ref o11)] [(.int (lcmpW (own_clr f n g 3) (0 : Int64)))])) _
  refine XS.ifNo X10.here hx rfl (hb hby at_214) rfl ((if0 _ _).trans (teq ((lw_eq _ _).mpr (hz 3) : (lcmpW (own_clr f n g 3) (0 : Int64)) = (0 : Int32))).2) ?_
  show Steps p.tables e below (T10.setTop (mkF m 217 #[s0, s1, s2, s3, s4, s5, s6, s7, s8, s9, s10, .val (.ref o11)] [])) _
  refine XS.iconst X10.here hx rfl (hb hby at_217) ?_
  show Steps p.tables e below (T10.setTop (mkF m 218 #[s0, s1, s2, s3, s4, s5, s6, s7, s8, s9, s10, .val (.ref o11)] [(.int (1 : Int32))])) _
  refine XS.goto X10.here hx rfl (pc0 := 218) (pc' := 222) rfl (hb hby at_218) (by decide) (by decide) ?_
  exact kt
theorem pn_0 : plainName "com/example/upweight/upweight/HeldTermsClearPinLaw" = true := by first | (simp [plainName, overriddenIn]; done) | decide +kernel
theorem ef_0 (m : MethodId) (x0 : Int32) (x1 : Int32) (x2 : Int64) (x3 : Int64) : entryFrame m #[(.int x0), (.int x1), (.long x2), (.long x3)] maxLocals = mkF m 0 #[.val (.int x0), .val (.int x1), .val (.long x2), .second, .val (.long x3), .second, .unset, .unset, .unset, .unset, .unset, .unset] [] := by first | (simp [entryFrame, mkF, argsToLocals, Value.category, maxLocals]; done) | rfl

set_option maxRecDepth 65536 in
set_option maxHeartbeats 40000000 in
theorem rm0 (l : Launch) (Z : State) (a0 : Array Value) (hw : ∀ d ∈ tables_1, d.before a0 Z = true) (ws : List Jvm.Cond) (p1 : Int32) (p2 : Int32) (q3 : Int64) (q4 : Int64) (h0 : Heap) (n0 : Nat) (Z0 : n0 ≤ h0.size) :
    MetFree l x (head1 (Jvm.Cond.code x code maxLocals ret :: ws) room_1) (fun a U => a = #[(.int p1), (.int p2), (.long q3), (.long q4)] ∧ Z.Warmed39 U.vm ∧ U.heap = h0) (fun _ _ _ _ _ => True) (fun _ U o U' => ∃ v L, o = .returned v ∧ (v = some (.int 1) ∧ Fr n0 L) ∧ FrameEnd U o U' L room_1.cells room_1.slots) := by
  refine MetFree.of_bodySF (plainFor_of_name pn_0) hisR ?_
  intro p e s m args below meth c s₁ Bd hml0 hP hK
  obtain ⟨rfl, hZ, hh⟩ := hP
  have hx := Bd.exec
  have hby := Bd.bytes
  have hml : c.maxLocals = 12 := hml0
  have hown : s.vm.findClass "com/example/upweight/upweight/HeldTermsClearPinLaw" = some m.cls := findClass_of_methodNamed Bd.named
  have hnm := (name_of_methodNamed Bd.named Bd.method).1
  have X0 : Stand p l e room_1 s m #[(.int p1), (.int p2), (.long q3), (.long q4)] below meth c s₁ [] 0 0 := Stand.of_body Bd
  have e0 : s₁.heap = h0 := by rw [← hh, Bd.state]; rfl
  have N0 := Fr.nil n0
  have pre0 : ∀ t, Steps p.tables e below (s₁.setTop (mkF m 0 #[.val (.int p1), .val (.int p2), .val (.long q3), .second, .val (.long q4), .second, .unset, .unset, .unset, .unset, .unset, .unset] [])) t → Steps p.tables e below (s₁.setTop (entryFrame m #[(.int p1), (.int p2), (.long q3), (.long q4)] maxLocals)) t := fun t k => castTop (ef_0 m p1 p2 q3 q4) k
  obtain ⟨b, T1, h1, l1, X1, e1, N1, Z1, ⟨ca, pa, HT1⟩, st1⟩ := tn0_0_29 p1 (.val (.int p2)) q3 q4 X0 hx hZ hw hby hml hown e0 N0 Z0 One.u One.u
  obtain ⟨n1, f1, g1, HT1, IV1⟩ : ∃ (n1 : Nat) (f1 : Nat → Nat) (g1 : Nat → Int64), own_HT Z n0 h1 b ca pa n1 f1 g1 ∧ own_INV 0 n1 f1 g1 := ⟨0, fun _ => 0, fun _ => 0, HT1, Nat.le_refl 0, fun i hi => absurd rfl hi⟩
  by_cases ho : (p2 &&& (1 : Int32)) = (0 : Int32)
  · obtain ⟨T2, X2, e2, st2⟩ := tn0_29_35 (.val (.int p1)) p2 (.val (.long q3)) .second (.val (.long q4)) .second (.val (.int (p1 &&& (15 : Int32)))) (.val (.long (own_f1 q3))) .second (.val (.long (own_f1 q4))) .second (.val (.ref b)) X1 hx hZ hw hby hml hown e1 ho
    obtain ⟨N2, Z2, HT2, IV2⟩ : Fr n0 l1 ∧ n0 ≤ h1.size ∧ own_HT Z n0 h1 b ca pa n1 f1 g1 ∧ own_INV 0 n1 f1 g1 := ⟨N1, Z1, HT1, IV1⟩
    obtain ⟨T3, h3, l3, X3, e3, N3, Z3, ⟨n3, f3, g3, HT3, IV3⟩, st3⟩ : ∃ (T' : State) (h' : Heap) (locs' : List Loc), Stand p l e room_1 s m #[(.int p1), (.int p2), (.long q3), (.long q4)] below meth c T' locs' 3 11 ∧ T'.heap = h' ∧ Fr n0 locs' ∧ n0 ≤ h'.size ∧ (∃ n' f' g', own_HT Z n0 h' b ca pa n' f' g' ∧ own_INV 1 n' f' g') ∧ ∀ target, Steps p.tables e below (T'.setTop (mkF m 50 #[.val (.int p1), .val (.int p2), .val (.long q3), .second, .val (.long q4), .second, .val (.int (p1 &&& (15 : Int32))), .val (.long (own_f1 q3)), .second, .val (.long (own_f1 q4)), .second, .val (.ref b)] [])) target → Steps p.tables e below (T2.setTop (mkF m 35 #[.val (.int p1), .val (.int p2), .val (.long q3), .second, .val (.long q4), .second, .val (.int (p1 &&& (15 : Int32))), .val (.long (own_f1 q3)), .second, .val (.long (own_f1 q4)), .second, .val (.ref b)] [])) target := by
      by_cases hc : ((p1 &&& (15 : Int32)) &&& (1 : Int32)) = (0 : Int32)
      · obtain ⟨T', X', e', st'⟩ := sk0_35_50 (.val (.int p1)) (.val (.int p2)) (.val (.long q3)) .second (.val (.long q4)) .second (p1 &&& (15 : Int32)) (.val (.long (own_f1 q3))) .second (.val (.long (own_f1 q4))) .second (.val (.ref b)) X2 hx hZ hw hby hml hown e2 hc
        exact ⟨T', h1, l1, X', e', N2, Z2, ⟨_, _, _, HT2, IV2.mono⟩, st'⟩
      · exact tn0_35_50 (.val (.int p1)) (.val (.int p2)) (.val (.long q3)) .second (.val (.long q4)) .second (p1 &&& (15 : Int32)) (own_f1 q3) (.val (.long (own_f1 q4))) .second b ca pa n1 f1 g1 X2 hx hZ hw hby hml hown e2 N2 Z2 HT2.1 hc HT2 IV2
    obtain ⟨T4, h4, l4, X4, e4, N4, Z4, ⟨n4, f4, g4, HT4, IV4⟩, st4⟩ : ∃ (T' : State) (h' : Heap) (locs' : List Loc), Stand p l e room_1 s m #[(.int p1), (.int p2), (.long q3), (.long q4)] below meth c T' locs' 3 11 ∧ T'.heap = h' ∧ Fr n0 locs' ∧ n0 ≤ h'.size ∧ (∃ n' f' g', own_HT Z n0 h' b ca pa n' f' g' ∧ own_INV 2 n' f' g') ∧ ∀ target, Steps p.tables e below (T'.setTop (mkF m 65 #[.val (.int p1), .val (.int p2), .val (.long q3), .second, .val (.long q4), .second, .val (.int (p1 &&& (15 : Int32))), .val (.long (own_f1 q3)), .second, .val (.long (own_f1 q4)), .second, .val (.ref b)] [])) target → Steps p.tables e below (T3.setTop (mkF m 50 #[.val (.int p1), .val (.int p2), .val (.long q3), .second, .val (.long q4), .second, .val (.int (p1 &&& (15 : Int32))), .val (.long (own_f1 q3)), .second, .val (.long (own_f1 q4)), .second, .val (.ref b)] [])) target := by
      by_cases hc : ((p1 &&& (15 : Int32)) &&& (2 : Int32)) = (0 : Int32)
      · obtain ⟨T', X', e', st'⟩ := sk0_50_65 (.val (.int p1)) (.val (.int p2)) (.val (.long q3)) .second (.val (.long q4)) .second (p1 &&& (15 : Int32)) (.val (.long (own_f1 q3))) .second (.val (.long (own_f1 q4))) .second (.val (.ref b)) X3 hx hZ hw hby hml hown e3 hc
        exact ⟨T', h3, l3, X', e', N3, Z3, ⟨_, _, _, HT3, IV3.mono⟩, st'⟩
      · exact tn0_50_65 (.val (.int p1)) (.val (.int p2)) (.val (.long q3)) .second (.val (.long q4)) .second (p1 &&& (15 : Int32)) (.val (.long (own_f1 q3))) .second (own_f1 q4) b ca pa n3 f3 g3 X3 hx hZ hw hby hml hown e3 N3 Z3 HT3.1 hc HT3 IV3
    obtain ⟨T5, h5, l5, X5, e5, N5, Z5, ⟨n5, f5, g5, HT5, IV5⟩, st5⟩ : ∃ (T' : State) (h' : Heap) (locs' : List Loc), Stand p l e room_1 s m #[(.int p1), (.int p2), (.long q3), (.long q4)] below meth c T' locs' 3 11 ∧ T'.heap = h' ∧ Fr n0 locs' ∧ n0 ≤ h'.size ∧ (∃ n' f' g', own_HT Z n0 h' b ca pa n' f' g' ∧ own_INV 3 n' f' g') ∧ ∀ target, Steps p.tables e below (T'.setTop (mkF m 80 #[.val (.int p1), .val (.int p2), .val (.long q3), .second, .val (.long q4), .second, .val (.int (p1 &&& (15 : Int32))), .val (.long (own_f1 q3)), .second, .val (.long (own_f1 q4)), .second, .val (.ref b)] [])) target → Steps p.tables e below (T4.setTop (mkF m 65 #[.val (.int p1), .val (.int p2), .val (.long q3), .second, .val (.long q4), .second, .val (.int (p1 &&& (15 : Int32))), .val (.long (own_f1 q3)), .second, .val (.long (own_f1 q4)), .second, .val (.ref b)] [])) target := by
      by_cases hc : ((p1 &&& (15 : Int32)) &&& (4 : Int32)) = (0 : Int32)
      · obtain ⟨T', X', e', st'⟩ := sk0_65_80 (.val (.int p1)) (.val (.int p2)) (.val (.long q3)) .second (.val (.long q4)) .second (p1 &&& (15 : Int32)) (.val (.long (own_f1 q3))) .second (.val (.long (own_f1 q4))) .second (.val (.ref b)) X4 hx hZ hw hby hml hown e4 hc
        exact ⟨T', h4, l4, X', e', N4, Z4, ⟨_, _, _, HT4, IV4.mono⟩, st'⟩
      · exact tn0_65_80 (.val (.int p1)) (.val (.int p2)) (.val (.long q3)) .second (.val (.long q4)) .second (p1 &&& (15 : Int32)) (own_f1 q3) (.val (.long (own_f1 q4))) .second b ca pa n4 f4 g4 X4 hx hZ hw hby hml hown e4 N4 Z4 HT4.1 hc HT4 IV4
    obtain ⟨T6, h6, l6, X6, e6, N6, Z6, ⟨n6, f6, g6, HT6, IV6⟩, st6⟩ : ∃ (T' : State) (h' : Heap) (locs' : List Loc), Stand p l e room_1 s m #[(.int p1), (.int p2), (.long q3), (.long q4)] below meth c T' locs' 3 11 ∧ T'.heap = h' ∧ Fr n0 locs' ∧ n0 ≤ h'.size ∧ (∃ n' f' g', own_HT Z n0 h' b ca pa n' f' g' ∧ own_INV 4 n' f' g') ∧ ∀ target, Steps p.tables e below (T'.setTop (mkF m 160 #[.val (.int p1), .val (.int p2), .val (.long q3), .second, .val (.long q4), .second, .val (.int (p1 &&& (15 : Int32))), .val (.long (own_f1 q3)), .second, .val (.long (own_f1 q4)), .second, .val (.ref b)] [])) target → Steps p.tables e below (T5.setTop (mkF m 80 #[.val (.int p1), .val (.int p2), .val (.long q3), .second, .val (.long q4), .second, .val (.int (p1 &&& (15 : Int32))), .val (.long (own_f1 q3)), .second, .val (.long (own_f1 q4)), .second, .val (.ref b)] [])) target := by
      by_cases hc : ((p1 &&& (15 : Int32)) &&& (8 : Int32)) = (0 : Int32)
      · obtain ⟨T', X', e', st'⟩ := sk0_80_160 (.val (.int p1)) (.val (.int p2)) (.val (.long q3)) .second (.val (.long q4)) .second (p1 &&& (15 : Int32)) (.val (.long (own_f1 q3))) .second (.val (.long (own_f1 q4))) .second (.val (.ref b)) X5 hx hZ hw hby hml hown e5 hc
        exact ⟨T', h5, l5, X', e', N5, Z5, ⟨_, _, _, HT5, IV5.mono⟩, st'⟩
      · exact tn0_80_160 (.val (.int p1)) (.val (.int p2)) (.val (.long q3)) .second (.val (.long q4)) .second (p1 &&& (15 : Int32)) (.val (.long (own_f1 q3))) .second (own_f1 q4) b ca pa n5 f5 g5 X5 hx hZ hw hby hml hown e5 N5 Z5 HT5.1 hc HT5 IV5

    obtain ⟨T9, h9, l9, X9, e9, N9, Z9, -, st9⟩ := tn0_160_222 (.val (.int p1)) (.val (.int p2)) (.val (.long q3)) .second (.val (.long q4)) .second (.val (.int (p1 &&& (15 : Int32)))) (.val (.long (own_f1 q3))) .second (.val (.long (own_f1 q4))) .second b ca pa n6 f6 g6 X6 hx hZ hw hby hml hown e6 N6 Z6 HT6.1 HT6 IV6
    obtain ⟨fs, hr, hrun, hended, hW, hsame⟩ := X9.leave (v := some (.int (1 : Int32))) (fun h => by rw [Bd.returns] at h; cases h)
    refine ⟨_, _, pre0 _ ?_, hrun, hended, _, _, rfl, ⟨rfl, N9⟩, ⟨_, rfl⟩, hW, hsame.mono (by decide) (by decide)⟩
    exact st1 _ (st2 _ (st3 _ (st4 _ (st5 _ (st6 _ (st9 _ (retN X9 hx (t := .boolean) Bd.returns (by simp) (hb hby at_222) hr)))))))
  · obtain ⟨T2, X2, e2, st2⟩ := tn0_29_99 (.val (.int p1)) p2 (.val (.long q3)) .second (.val (.long q4)) .second (.val (.int (p1 &&& (15 : Int32)))) (.val (.long (own_f1 q3))) .second (.val (.long (own_f1 q4))) .second (.val (.ref b)) X1 hx hZ hw hby hml hown e1 ho
    obtain ⟨N2, Z2, HT2, IV2⟩ : Fr n0 l1 ∧ n0 ≤ h1.size ∧ own_HT Z n0 h1 b ca pa n1 f1 g1 ∧ own_INV 0 n1 f1 g1 := ⟨N1, Z1, HT1, IV1⟩
    obtain ⟨T3, h3, l3, X3, e3, N3, Z3, ⟨n3, f3, g3, HT3, IV3⟩, st3⟩ : ∃ (T' : State) (h' : Heap) (locs' : List Loc), Stand p l e room_1 s m #[(.int p1), (.int p2), (.long q3), (.long q4)] below meth c T' locs' 3 11 ∧ T'.heap = h' ∧ Fr n0 locs' ∧ n0 ≤ h'.size ∧ (∃ n' f' g', own_HT Z n0 h' b ca pa n' f' g' ∧ own_INV 1 n' f' g') ∧ ∀ target, Steps p.tables e below (T'.setTop (mkF m 115 #[.val (.int p1), .val (.int p2), .val (.long q3), .second, .val (.long q4), .second, .val (.int (p1 &&& (15 : Int32))), .val (.long (own_f1 q3)), .second, .val (.long (own_f1 q4)), .second, .val (.ref b)] [])) target → Steps p.tables e below (T2.setTop (mkF m 99 #[.val (.int p1), .val (.int p2), .val (.long q3), .second, .val (.long q4), .second, .val (.int (p1 &&& (15 : Int32))), .val (.long (own_f1 q3)), .second, .val (.long (own_f1 q4)), .second, .val (.ref b)] [])) target := by
      by_cases hc : ((p1 &&& (15 : Int32)) &&& (8 : Int32)) = (0 : Int32)
      · obtain ⟨T', X', e', st'⟩ := sk0_99_115 (.val (.int p1)) (.val (.int p2)) (.val (.long q3)) .second (.val (.long q4)) .second (p1 &&& (15 : Int32)) (.val (.long (own_f1 q3))) .second (.val (.long (own_f1 q4))) .second (.val (.ref b)) X2 hx hZ hw hby hml hown e2 hc
        exact ⟨T', h1, l1, X', e', N2, Z2, ⟨_, _, _, HT2, IV2.mono⟩, st'⟩
      · exact tn0_99_115 (.val (.int p1)) (.val (.int p2)) (.val (.long q3)) .second (.val (.long q4)) .second (p1 &&& (15 : Int32)) (.val (.long (own_f1 q3))) .second (own_f1 q4) b ca pa n1 f1 g1 X2 hx hZ hw hby hml hown e2 N2 Z2 HT2.1 hc HT2 IV2
    obtain ⟨T4, h4, l4, X4, e4, N4, Z4, ⟨n4, f4, g4, HT4, IV4⟩, st4⟩ : ∃ (T' : State) (h' : Heap) (locs' : List Loc), Stand p l e room_1 s m #[(.int p1), (.int p2), (.long q3), (.long q4)] below meth c T' locs' 3 11 ∧ T'.heap = h' ∧ Fr n0 locs' ∧ n0 ≤ h'.size ∧ (∃ n' f' g', own_HT Z n0 h' b ca pa n' f' g' ∧ own_INV 2 n' f' g') ∧ ∀ target, Steps p.tables e below (T'.setTop (mkF m 130 #[.val (.int p1), .val (.int p2), .val (.long q3), .second, .val (.long q4), .second, .val (.int (p1 &&& (15 : Int32))), .val (.long (own_f1 q3)), .second, .val (.long (own_f1 q4)), .second, .val (.ref b)] [])) target → Steps p.tables e below (T3.setTop (mkF m 115 #[.val (.int p1), .val (.int p2), .val (.long q3), .second, .val (.long q4), .second, .val (.int (p1 &&& (15 : Int32))), .val (.long (own_f1 q3)), .second, .val (.long (own_f1 q4)), .second, .val (.ref b)] [])) target := by
      by_cases hc : ((p1 &&& (15 : Int32)) &&& (4 : Int32)) = (0 : Int32)
      · obtain ⟨T', X', e', st'⟩ := sk0_115_130 (.val (.int p1)) (.val (.int p2)) (.val (.long q3)) .second (.val (.long q4)) .second (p1 &&& (15 : Int32)) (.val (.long (own_f1 q3))) .second (.val (.long (own_f1 q4))) .second (.val (.ref b)) X3 hx hZ hw hby hml hown e3 hc
        exact ⟨T', h3, l3, X', e', N3, Z3, ⟨_, _, _, HT3, IV3.mono⟩, st'⟩
      · exact tn0_115_130 (.val (.int p1)) (.val (.int p2)) (.val (.long q3)) .second (.val (.long q4)) .second (p1 &&& (15 : Int32)) (own_f1 q3) (.val (.long (own_f1 q4))) .second b ca pa n3 f3 g3 X3 hx hZ hw hby hml hown e3 N3 Z3 HT3.1 hc HT3 IV3
    obtain ⟨T5, h5, l5, X5, e5, N5, Z5, ⟨n5, f5, g5, HT5, IV5⟩, st5⟩ : ∃ (T' : State) (h' : Heap) (locs' : List Loc), Stand p l e room_1 s m #[(.int p1), (.int p2), (.long q3), (.long q4)] below meth c T' locs' 3 11 ∧ T'.heap = h' ∧ Fr n0 locs' ∧ n0 ≤ h'.size ∧ (∃ n' f' g', own_HT Z n0 h' b ca pa n' f' g' ∧ own_INV 3 n' f' g') ∧ ∀ target, Steps p.tables e below (T'.setTop (mkF m 145 #[.val (.int p1), .val (.int p2), .val (.long q3), .second, .val (.long q4), .second, .val (.int (p1 &&& (15 : Int32))), .val (.long (own_f1 q3)), .second, .val (.long (own_f1 q4)), .second, .val (.ref b)] [])) target → Steps p.tables e below (T4.setTop (mkF m 130 #[.val (.int p1), .val (.int p2), .val (.long q3), .second, .val (.long q4), .second, .val (.int (p1 &&& (15 : Int32))), .val (.long (own_f1 q3)), .second, .val (.long (own_f1 q4)), .second, .val (.ref b)] [])) target := by
      by_cases hc : ((p1 &&& (15 : Int32)) &&& (2 : Int32)) = (0 : Int32)
      · obtain ⟨T', X', e', st'⟩ := sk0_130_145 (.val (.int p1)) (.val (.int p2)) (.val (.long q3)) .second (.val (.long q4)) .second (p1 &&& (15 : Int32)) (.val (.long (own_f1 q3))) .second (.val (.long (own_f1 q4))) .second (.val (.ref b)) X4 hx hZ hw hby hml hown e4 hc
        exact ⟨T', h4, l4, X', e', N4, Z4, ⟨_, _, _, HT4, IV4.mono⟩, st'⟩
      · exact tn0_130_145 (.val (.int p1)) (.val (.int p2)) (.val (.long q3)) .second (.val (.long q4)) .second (p1 &&& (15 : Int32)) (.val (.long (own_f1 q3))) .second (own_f1 q4) b ca pa n4 f4 g4 X4 hx hZ hw hby hml hown e4 N4 Z4 HT4.1 hc HT4 IV4
    obtain ⟨T6, h6, l6, X6, e6, N6, Z6, ⟨n6, f6, g6, HT6, IV6⟩, st6⟩ : ∃ (T' : State) (h' : Heap) (locs' : List Loc), Stand p l e room_1 s m #[(.int p1), (.int p2), (.long q3), (.long q4)] below meth c T' locs' 3 11 ∧ T'.heap = h' ∧ Fr n0 locs' ∧ n0 ≤ h'.size ∧ (∃ n' f' g', own_HT Z n0 h' b ca pa n' f' g' ∧ own_INV 4 n' f' g') ∧ ∀ target, Steps p.tables e below (T'.setTop (mkF m 160 #[.val (.int p1), .val (.int p2), .val (.long q3), .second, .val (.long q4), .second, .val (.int (p1 &&& (15 : Int32))), .val (.long (own_f1 q3)), .second, .val (.long (own_f1 q4)), .second, .val (.ref b)] [])) target → Steps p.tables e below (T5.setTop (mkF m 145 #[.val (.int p1), .val (.int p2), .val (.long q3), .second, .val (.long q4), .second, .val (.int (p1 &&& (15 : Int32))), .val (.long (own_f1 q3)), .second, .val (.long (own_f1 q4)), .second, .val (.ref b)] [])) target := by
      by_cases hc : ((p1 &&& (15 : Int32)) &&& (1 : Int32)) = (0 : Int32)
      · obtain ⟨T', X', e', st'⟩ := sk0_145_160 (.val (.int p1)) (.val (.int p2)) (.val (.long q3)) .second (.val (.long q4)) .second (p1 &&& (15 : Int32)) (.val (.long (own_f1 q3))) .second (.val (.long (own_f1 q4))) .second (.val (.ref b)) X5 hx hZ hw hby hml hown e5 hc
        exact ⟨T', h5, l5, X', e', N5, Z5, ⟨_, _, _, HT5, IV5.mono⟩, st'⟩
      · exact tn0_145_160 (.val (.int p1)) (.val (.int p2)) (.val (.long q3)) .second (.val (.long q4)) .second (p1 &&& (15 : Int32)) (own_f1 q3) (.val (.long (own_f1 q4))) .second b ca pa n5 f5 g5 X5 hx hZ hw hby hml hown e5 N5 Z5 HT5.1 hc HT5 IV5

    obtain ⟨T9, h9, l9, X9, e9, N9, Z9, -, st9⟩ := tn0_160_222 (.val (.int p1)) (.val (.int p2)) (.val (.long q3)) .second (.val (.long q4)) .second (.val (.int (p1 &&& (15 : Int32)))) (.val (.long (own_f1 q3))) .second (.val (.long (own_f1 q4))) .second b ca pa n6 f6 g6 X6 hx hZ hw hby hml hown e6 N6 Z6 HT6.1 HT6 IV6
    obtain ⟨fs, hr, hrun, hended, hW, hsame⟩ := X9.leave (v := some (.int (1 : Int32))) (fun h => by rw [Bd.returns] at h; cases h)
    refine ⟨_, _, pre0 _ ?_, hrun, hended, _, _, rfl, ⟨rfl, N9⟩, ⟨_, rfl⟩, hW, hsame.mono (by decide) (by decide)⟩
    exact st1 _ (st2 _ (st3 _ (st4 _ (st5 _ (st6 _ (st9 _ (retN X9 hx (t := .boolean) Bd.returns (by simp) (hb hby at_222) hr)))))))
set_option maxRecDepth 65536 in
set_option maxHeartbeats 40000000 in
theorem comes_1 {Post : Tables → Env → Array Value → State → Outcome → State → Prop} (hpost : ∀ tb e args s v u, (limb_1_1.after args s (.returned v) u = true ∧ limb_1_2.after args s (.returned v) u = true ∧ True) → FrameEnd s (.returned v) u (Jvm.fieldLocs frame_1_writes args s ++ Jvm.arrayLocs frame_1_arrays args s ++ Jvm.staticLocs frame_1_statics s) 16 128 → Post tb e args s (.returned v) u) :
    ArmFor flags0 classFile x code maxLocals ret World_1 tables_1 room_1 Calls_1 rest_1 Pre_1 Post := by
  intro l hfl _ _ p e ha hc hk s m args below hf hA hF happ hP
  obtain ⟨hcalls, hrest, hpre⟩ := hP
  obtain ⟨-, -, -, hnamed, -, -, -, hat⟩ := (Spec.applies_iff hf).mp happ
  obtain ⟨hg, hn⟩ := and_e (Cond.before_iff.mp (show (Jvm.Cond.and given_1 narrow_1).before args s = true from hpre))
  obtain ⟨g15, g16⟩ := and_e hg
  obtain ⟨g17, g18⟩ := and_e g16
  obtain ⟨g19, g20⟩ := and_e g18
  obtain ⟨g21, g22⟩ := and_e g20
  obtain ⟨w0, w1, w2, w3, rfl⟩ : ∃ w0 w1 w2 w3 : Value, args = #[w0, w1, w2, w3] := by
    have hs : args.size = 4 := by simpa [Cond.value, given_1] using g15
    obtain ⟨L⟩ := args
    match L, hs with
    | [w0, w1, w2, w3], _ => exact ⟨w0, w1, w2, w3, rfl⟩
  have hw := fun d (hd : d ∈ tables_1) => atoms_spec (ws := Jvm.Cond.code x code maxLocals ret :: tables_1) hat d (List.mem_cons_of_mem _ hd)
  have hfit : Fit s := fun {y c} hc i hi => by
    obtain ⟨ha, rfl⟩ := Array.getElem?_eq_some_iff.mp hc
    have q := List.all_eq_true.mp ((Array.all_eq_true_iff_forall_mem.mp hF) _ (Array.getElem_mem ha)) i (List.mem_range.mpr hi)
    simpa [Array.getElem?_eq_getElem hi] using q
  obtain ⟨i0, ei0⟩ := is_v g17
  obtain rfl : w0 = (.int i0) := Option.some.inj ei0
  obtain ⟨i1, ei1⟩ := is_v g19
  obtain rfl : w1 = (.int i1) := Option.some.inj ei1
  obtain ⟨i2, ei2⟩ := isL_v g21
  obtain rfl : w2 = (.long i2) := Option.some.inj ei2
  obtain ⟨i3, ei3⟩ := isL_v g22
  obtain rfl : w3 = (.long i3) := Option.some.inj ei3
  have all : MetFree l x (head1 (Jvm.Cond.code x code maxLocals ret :: tables_1) room_1) (fun a U => a = #[(.int i0), (.int i1), (.long i2), (.long i3)] ∧ s.Warmed39 U.vm ∧ U.heap = s.heap) (fun _ _ _ _ _ => True) (fun _ U o U' => ∃ v L, o = .returned v ∧ (v = some (.int 1) ∧ Fr s.heap.size L) ∧ FrameEnd U o U' L room_1.cells room_1.slots) := by
    exact rm0 l s _ hw tables_1 i0 i1 i2 i3 s.heap s.heap.size (Nat.le_refl _)
  obtain ⟨n, o, h1, h2, h3, _, L, rfl, ⟨rfl, N⟩, hq⟩ := all p e ha hc hk s m _ below hf ((Spec.applies_iff_loose hf).mp happ).1 ⟨rfl, State.Warmed39.refl s, rfl⟩ trivial
  refine ⟨n, _, h1, h2, h3, hpost _ _ _ _ _ _ ⟨Cond.after_iff.mpr rfl, Cond.after_iff.mpr (eq_i res_at (Term.int_eval (1)) rfl), trivial⟩ ⟨hq.1, hq.2.1, (hq.2.2.sift fun y hy => Or.inr (N y hy)).mono (by decide) (by decide)⟩⟩
theorem main_1_1 : Claimed_1_1 := comes_1 fun _ _ _ _ _ _ h hF => ⟨h.1, hF⟩
theorem main_1_2 : Claimed_1_2 := comes_1 fun _ _ _ _ _ _ h hF => ⟨h.2.1, hF⟩
end Jvm.Pilot.@@N@@
namespace Jvm.Pilot.@@N@@
open Jvm Jvm.ClassFile Sem Op Lib Jvm.Free Jvm.Stand Jvm.Pilot.@@N@@.Jvm.D
/-! MADE BY PROGRAM (witnessworld.py) out of the Statement's table words and the real class files: 11 classes; the members and pool entries that the words name. The judged class is class 1, her method 1. -/
namespace start1
open Jvm.ClassFile
def u (s : String) : CpInfo := .utf8 (stringToUtf16 s)
/-- a pool by its gaps: so many unusable entries, then the entry; so many at the end -/
def gap : Nat → List CpInfo → List CpInfo
  | 0, r => r
  | n + 1, r => .unusable :: gap n r
def poolList (es : List (Nat × CpInfo)) (last : Nat) : List CpInfo := es.foldr (fun e r => gap e.1 (e.2 :: r)) (gap last [])
def pool (es : List (Nat × CpInfo)) (last : Nat) : Array CpInfo := ⟨poolList es last⟩
def fileOf (pool : Array CpInfo) (this : Nat) (attrs : Array Attribute := #[]) (ms : Array MethodInfo := #[]) (fl : Nat := 33) (sup : Nat := 0) (ifs : Array Nat := #[]) (fds : Array FieldInfo := #[]) : ClassFile where
  minorVersion := 0
  majorVersion := 65
  constantPool := pool
  accessFlags := fl
  thisClass := this
  superClass := sup
  interfaces := ifs
  fields := fds
  methods := ms
  attributes := attrs
def plain (name : String) (sup : Option ClassId) : Class where
  name := name
  kind := .ordinary
  loader := none
  accessFlags := 33
  super := sup
  interfaces := #[]
  cf := none
  fields := #[]
  methods := #[]
  instanceTypes := #[]
  staticTypes := #[]
  resolved := #[]
  callSites := []
  init := .initialized
  statics := none
  mirror := none

def pool0 : Array CpInfo := pool [(5, u "<init>"), (0, u "()V"), (1, .class_ 10), (1, u "java/lang/Object")] 113

def k0c0 : Code := { maxStack := 0, maxLocals := 1, code := object_method_1_code, exceptionTable := #[], attributes := #[] }
def k0m0 : Method := { name := "<init>", desc := "()V", sig := { parameters := [], returnType := none }, accessFlags := 1, code := some k0c0 }
/-- java/lang/Object -/
def k0 : Class := { plain "java/lang/Object" none with
  accessFlags := 33
  interfaces := #[]
  cf := some (fileOf pool0 8 #[] #[{ accessFlags := 1, nameIndex := 5, descriptorIndex := 6, attributes := #[] }] 33 0 #[] #[])
  fields := #[]
  methods := #[k0m0]
  instanceTypes := #[]
  staticTypes := #[]
  resolved := Array.replicate 124 none
  statics := none }

def pool1 : Array CpInfo := pool [(2, .class_ 4), (1, u "java/lang/Object"), (0, u "<init>"), (0, u "()V"), (0, .methodref 8 9), (0, .class_ 10), (0, .nameAndType 11 12), (0, u "com/example/upweight/upweight/HeldTermsClearPinLaw"), (0, u "positive"), (0, u "(J)J"), (0, .class_ 14), (0, u "com/example/upweight/upweight/HeldTerms"), (0, .methodref 13 16), (0, .nameAndType 5 17), (0, u "(I)V"), (0, .methodref 13 19), (0, .nameAndType 20 21), (0, u "add"), (0, u "(IJ)V"), (0, .methodref 13 23), (0, .nameAndType 24 6), (0, u "clear"), (0, .methodref 13 26), (0, .nameAndType 27 28), (0, u "size"), (0, u "()I"), (0, .methodref 13 30), (0, .nameAndType 31 32), (0, u "count"), (0, u "(I)J"), (2, .long 9223372036854775807), (3, u "law"), (0, u "(IIJJ)Z")] 3

def k1m0 : Method := { name := "<init>", desc := "()V", sig := { parameters := [], returnType := none }, accessFlags := 1, code := none }
def k1c1 : Code := { maxStack := 4, maxLocals := 12, code := code, exceptionTable := #[], attributes := #[] }
def k1m1 : Method := { name := "law", desc := "(IIJJ)Z", sig := { parameters := [.int, .int, .long, .long], returnType := some .boolean }, accessFlags := 9, code := some k1c1 }
def k1c2 : Code := { maxStack := 4, maxLocals := 4, code := method_3_code, exceptionTable := #[], attributes := #[] }
def k1m2 : Method := { name := "positive", desc := "(J)J", sig := { parameters := [.long], returnType := some .long }, accessFlags := 10, code := some k1c2 }
/-- com/example/upweight/upweight/HeldTermsClearPinLaw -/
def k1 : Class := { plain "com/example/upweight/upweight/HeldTermsClearPinLaw" (some 0) with
  accessFlags := 49
  interfaces := #[]
  cf := some (fileOf pool1 8 #[] #[{ accessFlags := 1, nameIndex := 5, descriptorIndex := 6, attributes := #[] }, { accessFlags := 9, nameIndex := 39, descriptorIndex := 40, attributes := #[] }, { accessFlags := 10, nameIndex := 11, descriptorIndex := 12, attributes := #[] }] 49 2 #[] #[])
  fields := #[]
  methods := #[k1m0, k1m1, k1m2]
  instanceTypes := #[]
  staticTypes := #[]
  resolved := Array.replicate 44 none
  statics := none }

def pool2 : Array CpInfo := pool [(1, .methodref 2 3), (0, .class_ 4), (0, .nameAndType 5 6), (0, u "java/lang/Object"), (0, u "<init>"), (0, u "()V"), (0, .fieldref 8 9), (0, .class_ 10), (0, .nameAndType 11 12), (0, u "com/example/upweight/upweight/HeldTerms"), (0, u "counts"), (0, u "[J"), (0, .fieldref 8 14), (0, .nameAndType 15 16), (0, u "places"), (0, u "[I"), (0, .fieldref 8 18), (0, .nameAndType 19 20), (0, u "size"), (0, u "I"), (0, u "(I)V"), (2, u "()I"), (2, u "count"), (0, u "(I)J"), (0, u "add"), (0, u "(IJ)V"), (1, u "clear")] 2

def k2c0 : Code := { maxStack := 2, maxLocals := 2, code := prog_8_method_1_code, exceptionTable := #[], attributes := #[] }
def k2m0 : Method := { name := "<init>", desc := "(I)V", sig := { parameters := [.int], returnType := none }, accessFlags := 0, code := some k2c0 }
def k2c1 : Code := { maxStack := 1, maxLocals := 1, code := prog_8_method_2_code, exceptionTable := #[], attributes := #[] }
def k2m1 : Method := { name := "size", desc := "()I", sig := { parameters := [], returnType := some .int }, accessFlags := 0, code := some k2c1 }
def k2c2 : Code := { maxStack := 2, maxLocals := 2, code := prog_8_method_4_code, exceptionTable := #[], attributes := #[] }
def k2m2 : Method := { name := "count", desc := "(I)J", sig := { parameters := [.int], returnType := some .long }, accessFlags := 0, code := some k2c2 }
def k2c3 : Code := { maxStack := 5, maxLocals := 5, code := prog_8_method_5_code, exceptionTable := #[], attributes := #[] }
def k2m3 : Method := { name := "add", desc := "(IJ)V", sig := { parameters := [.int, .long], returnType := none }, accessFlags := 0, code := some k2c3 }
def k2c4 : Code := { maxStack := 4, maxLocals := 2, code := prog_8_method_6_code, exceptionTable := #[], attributes := #[] }
def k2m4 : Method := { name := "clear", desc := "()V", sig := { parameters := [], returnType := none }, accessFlags := 0, code := some k2c4 }
/-- com/example/upweight/upweight/HeldTerms -/
def k2 : Class := { plain "com/example/upweight/upweight/HeldTerms" (some 0) with
  accessFlags := 48
  interfaces := #[]
  cf := some (fileOf pool2 8 #[] #[{ accessFlags := 0, nameIndex := 5, descriptorIndex := 21, attributes := #[] }, { accessFlags := 0, nameIndex := 19, descriptorIndex := 24, attributes := #[] }, { accessFlags := 0, nameIndex := 27, descriptorIndex := 28, attributes := #[] }, { accessFlags := 0, nameIndex := 29, descriptorIndex := 30, attributes := #[] }, { accessFlags := 0, nameIndex := 32, descriptorIndex := 6, attributes := #[] }] 48 2 #[] #[{ accessFlags := 18, nameIndex := 11, descriptorIndex := 12, attributes := #[] }, { accessFlags := 18, nameIndex := 15, descriptorIndex := 16, attributes := #[] }, { accessFlags := 2, nameIndex := 19, descriptorIndex := 20, attributes := #[] }])
  fields := #[{ name := "counts", type := (.array .long), accessFlags := 18, slot := 0, constantValue := 0 }, { name := "places", type := (.array .int), accessFlags := 18, slot := 1, constantValue := 0 }, { name := "size", type := .int, accessFlags := 2, slot := 2, constantValue := 0 }]
  methods := #[k2m0, k2m1, k2m2, k2m3, k2m4]
  instanceTypes := #[(.array .long), (.array .int), .int]
  staticTypes := #[]
  resolved := Array.replicate 35 none
  statics := none }

def pool3 : Array CpInfo := pool [(1, u "java/lang/Cloneable"), (0, .class_ 1), (0, u "java/lang/Object"), (0, .class_ 3)] 3

/-- java/lang/Cloneable -/
def k3 : Class := { plain "java/lang/Cloneable" (some 0) with
  accessFlags := 1537
  interfaces := #[]
  cf := some (fileOf pool3 2 #[] #[] 1537 4 #[] #[])
  fields := #[]
  methods := #[]
  instanceTypes := #[]
  staticTypes := #[]
  resolved := Array.replicate 8 none
  statics := none }

def pool4 : Array CpInfo := pool [(1, u "java/io/Serializable"), (0, .class_ 1), (0, u "java/lang/Object"), (0, .class_ 3)] 3

/-- java/io/Serializable -/
def k4 : Class := { plain "java/io/Serializable" (some 0) with
  accessFlags := 1537
  interfaces := #[]
  cf := some (fileOf pool4 2 #[] #[] 1537 4 #[] #[])
  fields := #[]
  methods := #[]
  instanceTypes := #[]
  staticTypes := #[]
  resolved := Array.replicate 8 none
  statics := none }

/-- the primitive byte -/
def k5 : Class := { plain "byte" none with kind := .primitive 'B', accessFlags := 0x411 }
/-- [B -/
def k6 : Class := { plain "[B" (some 0) with kind := .array 5 .byte, interfaces := #[3, 4], accessFlags := 1041 }

/-- the primitive int -/
def k7 : Class := { plain "int" none with kind := .primitive 'I', accessFlags := 0x411 }
/-- [I -/
def k8 : Class := { plain "[I" (some 0) with kind := .array 7 .int, interfaces := #[3, 4], accessFlags := 1041 }

/-- the primitive long -/
def k9 : Class := { plain "long" none with kind := .primitive 'J', accessFlags := 0x411 }
/-- [J -/
def k10 : Class := { plain "[J" (some 0) with kind := .array 9 .long, interfaces := #[3, 4], accessFlags := 1041 }

def heap : Heap := #[]
def classes : Array Class := #[k0, k1, k2, k3, k4, k5, k6, k7, k8, k9, k10]
def interned : List (Array UInt16 × Addr) := []
def slotsUsed : Nat := 0
def theMethod : MethodId := ⟨1, 1⟩
def args0 : Array Value := #[.int 5, .int 0, .long 3, .long 4]
def aboutOver (below : List Frame) : State where
  vm := { classes := classes, interned := interned.toArray }
  heap := heap
  slotsUsed := slotsUsed
  threads := #[{ frames := .invoking theMethod args0 :: below }]
def below0 : List Frame := [.native { method := ⟨0, 0⟩, args := #[] }]
def about1 : State := aboutOver below0
def p0 : Program := .bare "" "" ""
def e0 : Env := launch0.env 0 0 0
theorem w_frames : about1.frames = Frame.invoking theMethod args0 :: below0 := rfl
set_option maxRecDepth 65536 in
theorem w_args : argsFit about1.vm theMethod args0 = true := by decide +kernel
set_option maxRecDepth 65536 in
theorem w_heap : heapFits about1 = true := by decide +kernel
set_option maxRecDepth 65536 in
theorem w_runnable : about1.curStatus? = some .runnable := by decide +kernel
set_option maxRecDepth 65536 in
theorem w_alone : about1.alone = true := by decide +kernel
set_option maxRecDepth 65536 in
theorem w_named : about1.methodNamed? x = some theMethod := by decide +kernel
set_option maxRecDepth 65536 in
theorem w_hears : about1.hears theMethod below0 = true := by decide +kernel
set_option maxRecDepth 65536 in
theorem w_ripe : about1.ripe theMethod args0 below0 = true := by decide +kernel
theorem w_running : about1.status = .running := rfl
set_option maxRecDepth 65536 in
theorem w_room : about1.hasRoom e0.platform room_1 = true :=
  launch0.hasRoom_least _ room_1 (by decide +kernel) (by decide +kernel) (by decide +kernel) (by decide +kernel) (by decide +kernel) (by decide +kernel)
theorem allAtoms_all (ts : List Jvm.Cond) (a : Array Jvm.Value) (st : Jvm.State) : (allAtoms ts).before a st = ts.all (fun c => c.before a st) := by
  induction ts with
  | nil => rfl
  | cons c t ih =>
    show (Jvm.Cond.and c (allAtoms t)).before a st = _
    rw [Jvm.Cond.before_and, ih, List.all_cons]
def words1 : List Jvm.Cond := Jvm.Cond.code x code maxLocals ret :: tables_1
/-- a 'code' word, met by the world's own term for the bytes: nothing is compared byte by byte -/
theorem code_word {y : MethodName} {bytes : ByteArray} {mx : Nat} {rt : Option FieldType} {a : Array Value} {s : State} {m : MethodId} {meth : Method} {c : Code} (h1 : s.methodNamed? y = some m) (h2 : s.vm.method? m = some meth) (h3 : meth.code = some c) (h4 : c.code = bytes)
    (h5 : (c.maxLocals == mx && c.exceptionTable.isEmpty && decide (c.maxStack ≤ mostOperands) && decide (meth.sig.returnType = rt) && !meth.locks && decide (parseMethodDescriptor y.desc = some meth.sig)) = true) : (Jvm.Cond.code y bytes mx rt).before a s = true := by
  simp only [Bool.and_eq_true, beq_iff_eq, Bool.not_eq_true', decide_eq_true_eq] at h5
  obtain ⟨⟨⟨⟨⟨g1, g2⟩, g3⟩, g4⟩, g5⟩, g6⟩ := h5
  simp [Cond.before, Cond.holds, Cond.value, h1, h2, h3, h4, g1, g2, g3, g4, g5, g6]
def isCode : Jvm.Cond → Bool
  | .code _ _ _ _ => true
  | _ => false
theorem all_split {L : List Jvm.Cond} {P : Jvm.Cond → Bool} (h1 : L.all (fun c => isCode c || P c) = true) (h2 : ∀ c ∈ L.filter isCode, P c = true) : L.all P = true := by
  refine List.all_eq_true.mpr fun c hc => ?_
  have h := List.all_eq_true.mp h1 c hc
  rcases Bool.eq_false_or_eq_true (isCode c) with hi | hi
  · exact h2 c (List.mem_filter.mpr ⟨hc, hi⟩)
  · simpa [hi] using h
set_option maxRecDepth 65536 in
theorem w_c0 : (Jvm.Cond.code x code maxLocals ret).before args0 about1 = true := code_word (m := ⟨1, 1⟩) (meth := k1m1) (c := k1c1) (by decide +kernel) rfl rfl rfl (by decide +kernel)
set_option maxRecDepth 65536 in
theorem w_c1 : (Jvm.Cond.code ({ cls := "com/example/upweight/upweight/HeldTermsClearPinLaw", name := "positive", desc := "(J)J" } : Jvm.MethodName) method_3_code (4 : Nat) (Option.some Jvm.ClassFile.FieldType.long)).before args0 about1 = true := code_word (m := ⟨1, 2⟩) (meth := k1m2) (c := k1c2) (by decide +kernel) rfl rfl rfl (by decide +kernel)
set_option maxRecDepth 65536 in
theorem w_c2 : (Jvm.Cond.code ({ cls := "com/example/upweight/upweight/HeldTerms", name := "<init>", desc := "(I)V" } : Jvm.MethodName) prog_8_method_1_code (2 : Nat) (Option.none : Option Jvm.ClassFile.FieldType)).before args0 about1 = true := code_word (m := ⟨2, 0⟩) (meth := k2m0) (c := k2c0) (by decide +kernel) rfl rfl rfl (by decide +kernel)
set_option maxRecDepth 65536 in
theorem w_c3 : (Jvm.Cond.code ({ cls := "java/lang/Object", name := "<init>", desc := "()V" } : Jvm.MethodName) object_method_1_code (1 : Nat) (Option.none : Option Jvm.ClassFile.FieldType)).before args0 about1 = true := code_word (m := ⟨0, 0⟩) (meth := k0m0) (c := k0c0) (by decide +kernel) rfl rfl rfl (by decide +kernel)
set_option maxRecDepth 65536 in
theorem w_c4 : (Jvm.Cond.code ({ cls := "com/example/upweight/upweight/HeldTerms", name := "clear", desc := "()V" } : Jvm.MethodName) prog_8_method_6_code (2 : Nat) (Option.none : Option Jvm.ClassFile.FieldType)).before args0 about1 = true := code_word (m := ⟨2, 4⟩) (meth := k2m4) (c := k2c4) (by decide +kernel) rfl rfl rfl (by decide +kernel)
set_option maxRecDepth 65536 in
theorem w_c5 : (Jvm.Cond.code ({ cls := "com/example/upweight/upweight/HeldTerms", name := "size", desc := "()I" } : Jvm.MethodName) prog_8_method_2_code (1 : Nat) (Option.some Jvm.ClassFile.FieldType.int)).before args0 about1 = true := code_word (m := ⟨2, 1⟩) (meth := k2m1) (c := k2c1) (by decide +kernel) rfl rfl rfl (by decide +kernel)
set_option maxRecDepth 65536 in
theorem w_c6 : (Jvm.Cond.code ({ cls := "com/example/upweight/upweight/HeldTerms", name := "count", desc := "(I)J" } : Jvm.MethodName) prog_8_method_4_code (2 : Nat) (Option.some Jvm.ClassFile.FieldType.long)).before args0 about1 = true := code_word (m := ⟨2, 2⟩) (meth := k2m2) (c := k2c2) (by decide +kernel) rfl rfl rfl (by decide +kernel)
set_option maxRecDepth 65536 in
theorem w_c7 : (Jvm.Cond.code ({ cls := "com/example/upweight/upweight/HeldTerms", name := "add", desc := "(IJ)V" } : Jvm.MethodName) prog_8_method_5_code (5 : Nat) (Option.none : Option Jvm.ClassFile.FieldType)).before args0 about1 = true := code_word (m := ⟨2, 3⟩) (meth := k2m3) (c := k2c3) (by decide +kernel) rfl rfl rfl (by decide +kernel)
def codes1 : List Jvm.Cond := [Jvm.Cond.code x code maxLocals ret, Jvm.Cond.code ({ cls := "com/example/upweight/upweight/HeldTermsClearPinLaw", name := "positive", desc := "(J)J" } : Jvm.MethodName) method_3_code (4 : Nat) (Option.some Jvm.ClassFile.FieldType.long), Jvm.Cond.code ({ cls := "com/example/upweight/upweight/HeldTerms", name := "<init>", desc := "(I)V" } : Jvm.MethodName) prog_8_method_1_code (2 : Nat) (Option.none : Option Jvm.ClassFile.FieldType), Jvm.Cond.code ({ cls := "java/lang/Object", name := "<init>", desc := "()V" } : Jvm.MethodName) object_method_1_code (1 : Nat) (Option.none : Option Jvm.ClassFile.FieldType), Jvm.Cond.code ({ cls := "com/example/upweight/upweight/HeldTerms", name := "clear", desc := "()V" } : Jvm.MethodName) prog_8_method_6_code (2 : Nat) (Option.none : Option Jvm.ClassFile.FieldType), Jvm.Cond.code ({ cls := "com/example/upweight/upweight/HeldTerms", name := "size", desc := "()I" } : Jvm.MethodName) prog_8_method_2_code (1 : Nat) (Option.some Jvm.ClassFile.FieldType.int), Jvm.Cond.code ({ cls := "com/example/upweight/upweight/HeldTerms", name := "count", desc := "(I)J" } : Jvm.MethodName) prog_8_method_4_code (2 : Nat) (Option.some Jvm.ClassFile.FieldType.long), Jvm.Cond.code ({ cls := "com/example/upweight/upweight/HeldTerms", name := "add", desc := "(IJ)V" } : Jvm.MethodName) prog_8_method_5_code (5 : Nat) (Option.none : Option Jvm.ClassFile.FieldType)]
set_option maxRecDepth 65536 in
theorem codes_eq : words1.filter isCode = codes1 := rfl
theorem w_codes : ∀ c ∈ words1.filter isCode, c.before args0 about1 = true := by
  rw [codes_eq]
  intro c hc
  simp only [codes1, List.mem_cons, List.not_mem_nil, or_false] at hc
  rcases hc with rfl | rfl | rfl | rfl | rfl | rfl | rfl | rfl
  · exact w_c0
  · exact w_c1
  · exact w_c2
  · exact w_c3
  · exact w_c4
  · exact w_c5
  · exact w_c6
  · exact w_c7
set_option maxRecDepth 65536 in
theorem w_t1 : (words1.take 24).all (fun c => isCode c || c.before args0 about1) = true := by decide +kernel
set_option maxRecDepth 65536 in
theorem w_t2 : (words1.drop 24).all (fun c => isCode c || c.before args0 about1) = true := by decide +kernel
theorem w_tables : (allAtoms (Jvm.Cond.code x code maxLocals ret :: tables_1)).before args0 about1 = true := by
  rw [allAtoms_all]
  show words1.all (fun c => c.before args0 about1) = true
  refine all_split ?_ w_codes
  rw [← List.take_append_drop 24 words1, List.all_append, w_t1, w_t2]
  rfl
set_option maxRecDepth 65536 in
theorem w_case : (Jvm.Cond.and given_1 narrow_1).before args0 about1 = true := by decide +kernel
theorem w_applies : (headSpec (Jvm.Cond.code x code maxLocals ret :: tables_1) room_1).applies x e0.platform about1 = true :=
  (Spec.applies_iff w_frames).mpr ⟨w_running, w_runnable, w_alone, w_named, w_hears, w_ripe, w_room, w_tables⟩
theorem atStart : AtStart classFile x code maxLocals ret World_1 tables_1 room_1 Calls_1 rest_1 Pre_1 launch0 p0 e0 about1 theMethod args0 below0 :=
  ⟨lists_1, trivial, launch0.admits_env _ _ _, launch0.least_env, fairChoices_fair.cas, fairChoices_fair.clock, w_frames, w_args, w_heap, w_applies, trivial, trivial, w_case⟩
end start1
theorem witness_1 : WitnessClaimed_1 := ⟨start1.p0, start1.e0, start1.about1, start1.theMethod, start1.args0, start1.below0, start1.atStart⟩
end Jvm.Pilot.@@N@@
