import JvmDerived
import JvmDerived.Pilot.@@N@@Statement
import JvmDerived.Pilot.@@N@@Code
set_option linter.unusedVariables false
set_option linter.unusedSimpArgs false
namespace Jvm.RoadKit
open Sem ClassFile Op Lib Jvm.Stand Jvm.Free Jvm.LawKit
section New
variable {p : Program} {l : Launch} {e : Env} {R : Room} {s : State} {m : MethodId} {args : Array Value} {below : List Frame} {meth : Method} {c : Code} {T : State} {locs : List Loc} {cells slots : Nat}
theorem retI (X : Stand p l e R s m args below meth c T locs cells slots) (hx : p.tables.exec = Jvm.exec) {pc : Nat} {Ls : Array Slot} {z : Int32} {rest : List Value} (hret : meth.sig.returnType = some .int) (hd : decode c.code pc = .ok (.ireturn, 1)) {fs : List Frame}
    (hl : ∀ (f : JFrame) (acts : List Action), f.method = m → f.locked = none → f.entered = [] → (doReturn e (T.setTop f) acts (some (.int z))).1 = T.setFrames fs) : Steps p.tables e below (T.setTop (mkF m pc Ls (.int z :: rest))) (T.setFrames fs) := by
  have hm' : T.vm.method? m = some meth := X.method'
  have hn : narrow .int (.int z) = .int z := rfl
  show Steps p.tables e below (T.setTop { method := m, pc := pc, locals := Ls, stack := _ :: rest, locked := none }) _
  jvm_step X.here [X.here.top, hx, hd, hm', hret, hn]
  first | (intro acts; rw [hl _ acts rfl rfl rfl]) | rw [hl _ _ rfl rfl rfl]
  exact Steps.refl _
end New
end Jvm.RoadKit
namespace Jvm.Pilot.@@N@@
open Jvm Jvm.ClassFile Sem Op Lib Jvm.Free Jvm.Stand Jvm.LawKit Jvm.RoadKit Bundle Jvm.Pilot.@@N@@.Jvm.D
theorem own_imod (x y : Int32) : x - (x / y) * y = x % y := by
  have hd : x / y = Int32.ofInt (x.toInt.tdiv y.toInt) := Int32.toInt_inj.mp (by rw [Int32.toInt_div, Int32.toInt_ofInt])
  have hm : x % y = Int32.ofInt (x.toInt.tmod y.toInt) := by rw [← Int32.toInt_mod, Int32.ofInt_toInt]
  have e := Int.tmod_add_mul_tdiv x.toInt y.toInt
  have e2 : x.toInt.tmod y.toInt = x.toInt - x.toInt.tdiv y.toInt * y.toInt := by rw [Int.mul_comm (x.toInt.tdiv y.toInt)]; omega
  rw [hm, e2, Int32.ofInt_sub, Int32.ofInt_mul, Int32.ofInt_toInt, Int32.ofInt_toInt, ← hd]
theorem own_irem {tb : Tables} [Ours tb] {e : Env} {below : List Frame} {T target : State} {m : MethodId} {c : Code} {g : JFrame} (h : At T m c below) (hx : tb.exec = Jvm.exec) (hg : g.method = m) {x y : Int32} {rest : List Value} (hd : decode c.code g.pc = .ok (.irem, 1)) (hs : g.stack = .int y :: .int x :: rest) (hy : y ≠ 0) (hr : Steps tb e below (T.setTop { g with pc := g.pc + 1, stack := .int (x % y) :: rest }) target) : Steps tb e below (T.setTop g) target := XS.irem h hx hg hd hs hy (by rw [own_imod]; exact hr)
theorem own_retL {p : Program} {l : Launch} {e : Env} {R : Room} {s : State} {m : MethodId} {args : Array Value} {below : List Frame} {meth : Method} {c : Code} {T : State} {locs : List Loc} {cells slots : Nat} (X : Stand p l e R s m args below meth c T locs cells slots) (hx : p.tables.exec = Jvm.exec) {pc : Nat} {Ls : Array Slot} {z : Int64} {rest : List Value} (hret : meth.sig.returnType = some .long) (hd : decode c.code pc = .ok (.lreturn, 1)) {fs : List Frame} (hl : ∀ (f : JFrame) (acts : List Action), f.method = m → f.locked = none → f.entered = [] → (doReturn e (T.setTop f) acts (some (.long z))).1 = T.setFrames fs) : Steps p.tables e below (T.setTop (mkF m pc Ls (.long z :: rest))) (T.setFrames fs) := by
  have hm' : T.vm.method? m = some meth := X.method'
  show Steps p.tables e below (T.setTop { method := m, pc := pc, locals := Ls, stack := _ :: rest, locked := none }) _
  jvm_step X.here [X.here.top, hx, hd, hm', hret, narrow]
  first | (intro acts; rw [hl _ acts rfl rfl rfl]) | rw [hl _ _ rfl rfl rfl]
  exact Steps.refl _
def own_Qr (h0 : Heap) (n0 : Nat) (r : Value) (v : Option Value) (h : Heap) (L : List Loc) : Prop := v = some r ∧ Fr n0 L ∧ h = h0

theorem own_ti {k : Nat} (h : k < 2147483648) : (Int32.ofNat k).toInt = k := len_toInt (by omega)
theorem own_nc {k : Nat} (h : k < 2147483648) : (Int32.ofNat k).toNatClampNeg = k := by
  simp only [Int32.toNatClampNeg, own_ti h]; omega
theorem own_ltn {i n : Nat} (hi : i < 2147483648) (hn : n < 2147483648) : Int32.ofNat i < Int32.ofNat n ↔ i < n := by
  rw [Int32.lt_iff_toInt_lt, own_ti hi, own_ti hn]; omega
theorem own_nneg {k : Nat} (h : k < 2147483648) : ¬ Int32.ofNat k < 0 := by
  have h0 : (0 : Int32).toInt = 0 := by decide
  rw [Int32.lt_iff_toInt_lt, own_ti h, h0]; omega
theorem own_add1 (k : Nat) : Int32.ofNat k + (1 : Int32) = Int32.ofNat (k + 1) := (Int32.ofNat_add k 1).symm
theorem own_sub1 (k : Nat) : Int32.ofNat (k + 1) - (1 : Int32) = Int32.ofNat k := by
  rw [← own_add1]; exact Int32.add_sub_cancel _ _
theorem own_dec1 (k : Nat) : Int32.ofNat (k + 1) + (-1 : Int32) = Int32.ofNat k := by
  rw [← own_sub1 k, Int32.sub_eq_add_neg]
theorem own_inb {k N : Nat} {cl : Cell} (S : cl.slots.size = N) (h : k < N) (hN : N < 2147483648) : ¬ (Int32.ofNat k < 0 ∨ cl.slots.size ≤ (Int32.ofNat k).toNatClampNeg) := by
  rw [S, own_nc (by omega)]
  rintro (q | q)
  · exact own_nneg (by omega) q
  · omega
def own_n (x : Int64) : Nat := x.toBitVec.toNat
theorem own_n_inj {x y : Int64} (h : own_n x = own_n y) : x = y := Int64.toBitVec_inj.mp (BitVec.eq_of_toNat_eq h)
def own_shr (x : Int64) (k : Int32) : Int64 := (x.toUInt64 >>> (k &&& 0x3f).toInt64.toUInt64).toInt64
def own_shl (x : Int64) (k : Int32) : Int64 := x <<< (k &&& 0x3f).toInt64
theorem own_amt : ∀ h, h < 17 → ((Int32.ofNat h &&& 0x3f).toInt64.toUInt64.toBitVec % 64) = BitVec.ofNat 64 h := by decide
theorem own_amt2 : ∀ h, h < 17 → ((Int32.ofNat h &&& 0x3f).toInt64.toBitVec.smod 64) = BitVec.ofNat 64 h := by decide
theorem own_n_shr (x : Int64) {h : Nat} (hh : h < 17) : own_n (own_shr x (Int32.ofNat h)) = own_n x / 2 ^ h := by
  show (x.toUInt64 >>> (Int32.ofNat h &&& 0x3f).toInt64.toUInt64).toBitVec.toNat = _
  rw [UInt64.toBitVec_shiftRight, own_amt h hh]
  show (x.toBitVec >>> BitVec.ofNat 64 h).toNat = _
  rw [BitVec.ushiftRight_eq', BitVec.toNat_ushiftRight, BitVec.toNat_ofNat, Nat.mod_eq_of_lt (by omega), Nat.shiftRight_eq_div_pow]
  rfl
theorem own_n_shl (x : Int64) {h : Nat} (hh : h < 17) : own_n (own_shl x (Int32.ofNat h)) = own_n x * 2 ^ h % 2 ^ 64 := by
  show (x <<< (Int32.ofNat h &&& 0x3f).toInt64).toBitVec.toNat = _
  rw [Int64.toBitVec_shiftLeft, own_amt2 h hh, BitVec.shiftLeft_eq', BitVec.toNat_shiftLeft, BitVec.toNat_ofNat, Nat.mod_eq_of_lt (a := h) (by omega), Nat.shiftLeft_eq]
  rfl
theorem own_n_and (x y : Int64) : own_n (x &&& y) = own_n x &&& own_n y := by
  show (x &&& y).toBitVec.toNat = _
  rw [Int64.toBitVec_and, BitVec.toNat_and]; rfl
theorem own_n_xor (x y : Int64) : own_n (x ^^^ y) = own_n x ^^^ own_n y := by
  show (x ^^^ y).toBitVec.toNat = _
  rw [Int64.toBitVec_xor, BitVec.toNat_xor]; rfl
theorem own_n_or (x y : Int64) : own_n (x ||| y) = own_n x ||| own_n y := by
  show (x ||| y).toBitVec.toNat = _
  rw [Int64.toBitVec_or, BitVec.toNat_or]; rfl
def own_hm (hb : Int32) : Int64 := own_shl 1 hb - 1
theorem own_n_hm : ∀ h, h < 17 → own_n (own_hm (Int32.ofNat h)) = 2 ^ h - 1 := by decide
theorem own_n_mask (x : Int64) {h : Nat} (hh : h < 17) : own_n (x &&& own_hm (Int32.ofNat h)) = own_n x % 2 ^ h := by
  rw [own_n_and, own_n_hm h hh, Nat.and_two_pow_sub_one_eq_mod]
theorem own_n_comb (l r : Int64) {h : Nat} (hh : h < 17) (hl : own_n l < 2 ^ h) (hr : own_n r < 2 ^ h) : own_n (own_shl l (Int32.ofNat h) ||| r) = own_n l * 2 ^ h + own_n r := by
  have hp : 2 ^ h ≤ 2 ^ 16 := Nat.pow_le_pow_right (by decide) (by omega)
  have hb : own_n l * 2 ^ h < 2 ^ 64 := by
    have : own_n l * 2 ^ h ≤ 2 ^ 16 * 2 ^ 16 := Nat.mul_le_mul (by omega) hp
    omega
  rw [own_n_or, own_n_shl l hh, Nat.mod_eq_of_lt hb, ← Nat.shiftLeft_eq, ← Nat.shiftLeft_add_eq_or_of_lt hr]
/-- one round -/
def own_rd (F : Int32 → Int64 → Int64) (r : Int32) (x : Int64 × Int64) : Int64 × Int64 := (x.2, x.1 ^^^ F r x.2)
def own_x4 (F : Int32 → Int64 → Int64) (hb : Int32) (v : Int64) : Int64 × Int64 := own_rd F 3 (own_rd F 2 (own_rd F 1 (own_rd F 0 (own_shr v hb, v &&& own_hm hb))))
def own_P (F : Int32 → Int64 → Int64) (hb : Int32) (v : Int64) : Int64 := own_shl (own_x4 F hb v).1 hb ||| (own_x4 F hb v).2
def own_sm (h : Nat) (x : Int64 × Int64) : Prop := own_n x.1 < 2 ^ h ∧ own_n x.2 < 2 ^ h
theorem own_rd_sm {F : Int32 → Int64 → Int64} {h : Nat} (hF : ∀ r x, own_n (F r x) < 2 ^ h) (r : Int32) {x : Int64 × Int64} (hx : own_sm h x) : own_sm h (own_rd F r x) :=
  ⟨hx.2, by show own_n (x.1 ^^^ F r x.2) < _; rw [own_n_xor]; exact Nat.xor_lt_two_pow hx.1 (hF _ _)⟩
theorem own_rd_inj {F : Int32 → Int64 → Int64} (r : Int32) {x y : Int64 × Int64} (e : own_rd F r x = own_rd F r y) : x = y := by
  have e2 : x.2 = y.2 := congrArg Prod.fst e
  have e1 : x.1 ^^^ F r x.2 = y.1 ^^^ F r y.2 := congrArg Prod.snd e
  rw [e2] at e1
  have e3 : x.1 = y.1 := by
    have := congrArg (· ^^^ F r y.2) e1
    simpa [Int64.xor_assoc] using this
  exact Prod.ext e3 e2
theorem own_x4_sm {F : Int32 → Int64 → Int64} {h : Nat} (hh : h < 17) (hF : ∀ r x, own_n (F r x) < 2 ^ h) {v : Int64} (hv : own_n v < 2 ^ (2 * h)) : own_sm h (own_x4 F (Int32.ofNat h) v) := by
  refine own_rd_sm hF _ (own_rd_sm hF _ (own_rd_sm hF _ (own_rd_sm hF _ ⟨?_, ?_⟩)))
  · show own_n (own_shr v (Int32.ofNat h)) < _
    rw [own_n_shr v hh]
    refine Nat.div_lt_of_lt_mul ?_
    rw [← Nat.pow_add, ← Nat.two_mul]; exact hv
  · show own_n (v &&& own_hm (Int32.ofNat h)) < _
    rw [own_n_mask v hh]; exact Nat.mod_lt _ (Nat.two_pow_pos h)
theorem own_P_in {F : Int32 → Int64 → Int64} {h : Nat} (hh : h < 17) (hF : ∀ r x, own_n (F r x) < 2 ^ h) {v : Int64} (hv : own_n v < 2 ^ (2 * h)) : own_n (own_P F (Int32.ofNat h) v) < 2 ^ (2 * h) := by
  obtain ⟨h1, h2⟩ := own_x4_sm hh hF hv
  show own_n (own_shl _ _ ||| _) < _
  rw [own_n_comb _ _ hh h1 h2, Nat.two_mul, Nat.pow_add]
  calc own_n (own_x4 F (Int32.ofNat h) v).1 * 2 ^ h + own_n (own_x4 F (Int32.ofNat h) v).2 < own_n (own_x4 F (Int32.ofNat h) v).1 * 2 ^ h + 2 ^ h := Nat.add_lt_add_left h2 _
    _ = (own_n (own_x4 F (Int32.ofNat h) v).1 + 1) * 2 ^ h := by rw [Nat.add_mul, Nat.one_mul]
    _ ≤ 2 ^ h * 2 ^ h := Nat.mul_le_mul_right _ h1
theorem own_P_inj {F : Int32 → Int64 → Int64} {h : Nat} (hh : h < 17) (hF : ∀ r x, own_n (F r x) < 2 ^ h) {v w : Int64} (hv : own_n v < 2 ^ (2 * h)) (hw : own_n w < 2 ^ (2 * h)) (e : own_P F (Int32.ofNat h) v = own_P F (Int32.ofNat h) w) : v = w := by
  obtain ⟨a1, a2⟩ := own_x4_sm hh hF hv
  obtain ⟨b1, b2⟩ := own_x4_sm hh hF hw
  have q : own_n (own_shl (own_x4 F (Int32.ofNat h) v).1 (Int32.ofNat h) ||| (own_x4 F (Int32.ofNat h) v).2) = own_n (own_shl (own_x4 F (Int32.ofNat h) w).1 (Int32.ofNat h) ||| (own_x4 F (Int32.ofNat h) w).2) := congrArg own_n e
  rw [own_n_comb _ _ hh a1 a2, own_n_comb _ _ hh b1 b2] at q
  have q1 : own_n (own_x4 F (Int32.ofNat h) v).1 = own_n (own_x4 F (Int32.ofNat h) w).1 := by
    have := congrArg (· / 2 ^ h) q
    simpa [Nat.mul_comm _ (2 ^ h), Nat.mul_add_div (Nat.two_pow_pos h), Nat.div_eq_of_lt a2, Nat.div_eq_of_lt b2] using this
  have q2 : own_n (own_x4 F (Int32.ofNat h) v).2 = own_n (own_x4 F (Int32.ofNat h) w).2 := by rw [q1] at q; omega
  have q3 : own_x4 F (Int32.ofNat h) v = own_x4 F (Int32.ofNat h) w := Prod.ext (own_n_inj q1) (own_n_inj q2)
  have q4 := own_rd_inj _ (own_rd_inj _ (own_rd_inj _ (own_rd_inj _ q3)))
  have r1 : own_n v / 2 ^ h = own_n w / 2 ^ h := by rw [← own_n_shr v hh, ← own_n_shr w hh]; exact congrArg own_n (congrArg Prod.fst q4)
  have r2 : own_n v % 2 ^ h = own_n w % 2 ^ h := by rw [← own_n_mask v hh, ← own_n_mask w hh]; exact congrArg own_n (congrArg Prod.snd q4)
  apply own_n_inj
  rw [← Nat.div_add_mod (own_n v) (2 ^ h), ← Nat.div_add_mod (own_n w) (2 ^ h), r1, r2]
theorem own_pig : ∀ (N : Nat) (g : Nat → Nat), (∀ i, i ≤ N → g i < N) → ∃ i j, i < j ∧ j ≤ N ∧ g i = g j
  | 0, g, h => absurd (h 0 (Nat.le_refl _)) (Nat.not_lt_zero _)
  | N + 1, g, h => by
    by_cases c : ∃ i, i ≤ N ∧ g i = g (N + 1)
    · obtain ⟨i, hi, e⟩ := c; exact ⟨i, N + 1, by omega, Nat.le_refl _, e⟩
    · have c' : ∀ i, i ≤ N → g i ≠ g (N + 1) := fun i hi e => c ⟨i, hi, e⟩
      obtain ⟨i, j, hij, hj, e⟩ := own_pig N (fun i => if g i = N then g (N + 1) else g i) (fun i hi => by
        have h1 := h i (by omega)
        have h2 := h (N + 1) (Nat.le_refl _)
        have h3 := c' i hi
        show (if g i = N then g (N + 1) else g i) < N
        split <;> omega)
      refine ⟨i, j, hij, by omega, ?_⟩
      have h1 := c' i (by omega)
      have h2 := c' j hj
      try simp only at e
      split at e <;> split at e <;> omega
def own_it (P : Int64 → Int64) : Nat → Int64 → Int64
  | 0, v => v
  | n + 1, v => own_it P n (P v)
theorem own_it_succ (P : Int64 → Int64) : ∀ (n : Nat) (v : Int64), own_it P (n + 1) v = P (own_it P n v)
  | 0, v => rfl
  | n + 1, v => own_it_succ P n (P v)
theorem own_it_add (P : Int64 → Int64) (m : Nat) : ∀ (n : Nat) (v : Int64), own_it P (n + m) v = own_it P m (own_it P n v)
  | 0, v => by rw [Nat.zero_add]; rfl
  | n + 1, v => by rw [Nat.succ_add]; exact own_it_add P m n (P v)
theorem own_it_in {P : Int64 → Int64} {N : Nat} (hin : ∀ v, own_n v < N → own_n (P v) < N) : ∀ (n : Nat) (v : Int64), own_n v < N → own_n (own_it P n v) < N
  | 0, v, h => h
  | n + 1, v, h => own_it_in hin n (P v) (hin v h)
theorem own_it_inj {P : Int64 → Int64} {N : Nat} (hin : ∀ v, own_n v < N → own_n (P v) < N) (hinj : ∀ v w, own_n v < N → own_n w < N → P v = P w → v = w) : ∀ (n : Nat) (v w : Int64), own_n v < N → own_n w < N → own_it P n v = own_it P n w → v = w
  | 0, v, w, hv, hw, e => e
  | n + 1, v, w, hv, hw, e => hinj v w hv hw (own_it_inj hin hinj n (P v) (P w) (hin v hv) (hin w hw) e)
theorem own_back {P : Int64 → Int64} {N : Nat} (hin : ∀ v, own_n v < N → own_n (P v) < N) (hinj : ∀ v w, own_n v < N → own_n w < N → P v = P w → v = w) {v : Int64} (hv : own_n v < N) : ∃ n, own_it P (n + 1) v = v := by
  obtain ⟨i, j, hij, -, e⟩ := own_pig N (fun i => own_n (own_it P i v)) (fun i _ => own_it_in hin i v hv)
  have e1 : own_it P i v = own_it P i (own_it P (j - i) v) := by
    rw [← own_it_add, Nat.sub_add_cancel (Nat.le_of_lt hij)]; exact own_n_inj e
  have e2 := own_it_inj hin hinj i v (own_it P (j - i) v) hv (own_it_in hin _ v hv) e1
  refine ⟨j - i - 1, ?_⟩
  rw [show j - i - 1 + 1 = j - i by omega]; exact e2.symm
/-- the first return is one to one -/
theorem own_first {P : Int64 → Int64} {N : Nat} (hin : ∀ v, own_n v < N → own_n (P v) < N) (hinj : ∀ v w, own_n v < N → own_n w < N → P v = P w → v = w) {c : Int64} {a b : Int64} (ha : own_n a < N) (hb : own_n b < N) (hac : a < c) (hbc : b < c) {k m : Nat} (hk : ∀ j, j < k → ¬ own_it P (j + 1) a < c) (hm : ∀ j, j < m → ¬ own_it P (j + 1) b < c) (e : own_it P (k + 1) a = own_it P (m + 1) b) : a = b := by
  rcases Nat.lt_trichotomy k m with q | q | q
  · have e1 : own_it P (k + 1) a = own_it P (k + 1) (own_it P (m - k) b) := by
      rw [e, ← own_it_add, show m - k + (k + 1) = m + 1 by omega]
    have e2 := own_it_inj hin hinj (k + 1) a _ ha (own_it_in hin _ b hb) e1
    have := hm (m - k - 1) (by omega)
    rw [show m - k - 1 + 1 = m - k by omega, ← e2] at this
    exact absurd hac this
  · subst q; exact own_it_inj hin hinj (k + 1) a b ha hb e
  · have e1 : own_it P (m + 1) b = own_it P (m + 1) (own_it P (k - m) a) := by
      rw [← e, ← own_it_add, show k - m + (m + 1) = k + 1 by omega]
    have e2 := own_it_inj hin hinj (m + 1) b _ hb (own_it_in hin _ a ha) e1
    have := hk (k - m - 1) (by omega)
    rw [show k - m - 1 + 1 = k - m by omega, ← e2] at this
    exact absurd hbc this
theorem d1_0 : decode jdk_29_method_65_code 0 = .ok (.iload_n 0, 1) := by decide +kernel
theorem d1_1 : decode jdk_29_method_65_code 1 = .ok (.iload_n 1, 1) := by decide +kernel
theorem d1_2 : decode jdk_29_method_65_code 2 = .ok (.if_icmp .lt 7, 3) := by decide +kernel
theorem d1_5 : decode jdk_29_method_65_code 5 = .ok (.iload_n 0, 1) := by decide +kernel
theorem d1_6 : decode jdk_29_method_65_code 6 = .ok (.goto 4, 3) := by decide +kernel
theorem d1_10 : decode jdk_29_method_65_code 10 = .ok (.ireturn, 1) := by decide +kernel
theorem ef_1 (m : MethodId) (x0 : Int32) (x1 : Int32) : entryFrame m #[(.int x0), (.int x1)] 2 = mkF m 0 #[.val (.int x0), .val (.int x1)] [] := by first | (simp [entryFrame, mkF, argsToLocals, Value.category]; done) | rfl
def Q1a (Z : State) (p1 : Int32) (p2 : Int32) (h0 : Heap) (n0 : Nat) (v : Option Value) (h : Heap) (L : List Loc) : Prop := v = some (.int p1) ∧ Fr n0 L ∧ h = h0
set_option maxRecDepth 65536 in
set_option maxHeartbeats 40000000 in
theorem rm1a (l : Launch) (Z : State) (a0 : Array Value) (hw : ∀ d ∈ tables_1, d.before a0 Z = true) (ws : List Jvm.Cond) (p1 : Int32) (p2 : Int32) (h0 : Heap) (n0 : Nat) (Z0 : n0 ≤ h0.size) (hc2 : ¬ (p1 < p2)) :
    MetFree l (⟨"java/lang/Math", "max", "(II)I"⟩ : MethodName) (head1 (Jvm.Cond.code (⟨"java/lang/Math", "max", "(II)I"⟩ : MethodName) jdk_29_method_65_code 2 (some .int) :: ws) ({ frames := 0, cells := 0, slots := 0, locals := 0 } : Room)) (fun a U => a = #[(.int p1), (.int p2)] ∧ Z.Warmed39 U.vm ∧ U.heap = h0) (fun _ _ _ _ _ => True) (fun _ U o U' => ∃ v L, o = .returned v ∧ Q1a Z p1 p2 h0 n0 v U'.heap L ∧ FrameEnd U o U' L ({ frames := 0, cells := 0, slots := 0, locals := 0 } : Room).cells ({ frames := 0, cells := 0, slots := 0, locals := 0 } : Room).slots) := by
  refine MetFree.of_bodySF (Jvm.Free.JP.mathPlain rfl (by decide +kernel)) hisR ?_
  intro p e s m args below meth c s₁ Bd hml0 hP hK
  obtain ⟨rfl, hZ, hh⟩ := hP
  have hx := Bd.exec
  have hby := Bd.bytes
  have hml : c.maxLocals = 2 := hml0
  have hown : s.vm.findClass "java/lang/Math" = some m.cls := findClass_of_methodNamed Bd.named
  have hnm := (name_of_methodNamed Bd.named Bd.method).1
  have X0 : Stand p l e ({ frames := 0, cells := 0, slots := 0, locals := 0 } : Room) s m #[(.int p1), (.int p2)] below meth c s₁ [] 0 0 := Stand.of_body Bd
  have e0 : s₁.heap = h0 := by rw [← hh, Bd.state]; rfl
  have N0 := Fr.nil n0
  have pre0 : ∀ t, Steps p.tables e below (s₁.setTop (mkF m 0 #[.val (.int p1), .val (.int p2)] [])) t → Steps p.tables e below (s₁.setTop (entryFrame m #[(.int p1), (.int p2)] 2)) t := fun t k => castTop (ef_1 m p1 p2) k

  obtain ⟨fs, hr, hrun, hended, hW, hsame⟩ := X0.leave (v := some (.int p1)) (fun h => by rw [Bd.returns] at h; cases h)
  refine ⟨_, _, pre0 _ ?_, hrun, hended, _, _, rfl, ?_, ⟨_, rfl⟩, hW, hsame.mono (by decide) (by decide)⟩
  · show Steps p.tables e below (s₁.setTop (mkF m 0 #[.val (.int p1), .val (.int p2)] [])) _
    refine XS.iloadN X0.here hx rfl (hb hby d1_0) rfl ?_
    show Steps p.tables e below (s₁.setTop (mkF m 1 #[.val (.int p1), .val (.int p2)] [(.int p1)])) _
    refine XS.iloadN X0.here hx rfl (hb hby d1_1) rfl ?_
    show Steps p.tables e below (s₁.setTop (mkF m 2 #[.val (.int p1), .val (.int p2)] [(.int p2), (.int p1)])) _
    refine XS.icmpNo X0.here hx rfl (hb hby d1_2) rfl (flt hc2).1 ?_
    show Steps p.tables e below (s₁.setTop (mkF m 5 #[.val (.int p1), .val (.int p2)] [])) _
    refine XS.iloadN X0.here hx rfl (hb hby d1_5) rfl ?_
    show Steps p.tables e below (s₁.setTop (mkF m 6 #[.val (.int p1), .val (.int p2)] [(.int p1)])) _
    refine XS.goto X0.here hx rfl (pc0 := 6) (pc' := 10) rfl (hb hby d1_6) (by decide) (by decide) ?_
    show Steps p.tables e below (s₁.setTop (mkF m 10 #[.val (.int p1), .val (.int p2)] [(.int p1)])) _
    exact retI X0 hx Bd.returns (hb hby d1_10) hr
  · show Q1a Z p1 p2 h0 n0 _ s₁.heap _
    rw [e0]
    exact ⟨rfl, N0, rfl⟩
theorem d1_9 : decode jdk_29_method_65_code 9 = .ok (.iload_n 1, 1) := by decide +kernel
def Q1b (Z : State) (p1 : Int32) (p2 : Int32) (h0 : Heap) (n0 : Nat) (v : Option Value) (h : Heap) (L : List Loc) : Prop := v = some (.int p2) ∧ Fr n0 L ∧ h = h0
set_option maxRecDepth 65536 in
set_option maxHeartbeats 40000000 in
theorem rm1b (l : Launch) (Z : State) (a0 : Array Value) (hw : ∀ d ∈ tables_1, d.before a0 Z = true) (ws : List Jvm.Cond) (p1 : Int32) (p2 : Int32) (h0 : Heap) (n0 : Nat) (Z0 : n0 ≤ h0.size) (hc2 : p1 < p2) :
    MetFree l (⟨"java/lang/Math", "max", "(II)I"⟩ : MethodName) (head1 (Jvm.Cond.code (⟨"java/lang/Math", "max", "(II)I"⟩ : MethodName) jdk_29_method_65_code 2 (some .int) :: ws) ({ frames := 0, cells := 0, slots := 0, locals := 0 } : Room)) (fun a U => a = #[(.int p1), (.int p2)] ∧ Z.Warmed39 U.vm ∧ U.heap = h0) (fun _ _ _ _ _ => True) (fun _ U o U' => ∃ v L, o = .returned v ∧ Q1b Z p1 p2 h0 n0 v U'.heap L ∧ FrameEnd U o U' L ({ frames := 0, cells := 0, slots := 0, locals := 0 } : Room).cells ({ frames := 0, cells := 0, slots := 0, locals := 0 } : Room).slots) := by
  refine MetFree.of_bodySF (Jvm.Free.JP.mathPlain rfl (by decide +kernel)) hisR ?_
  intro p e s m args below meth c s₁ Bd hml0 hP hK
  obtain ⟨rfl, hZ, hh⟩ := hP
  have hx := Bd.exec
  have hby := Bd.bytes
  have hml : c.maxLocals = 2 := hml0
  have hown : s.vm.findClass "java/lang/Math" = some m.cls := findClass_of_methodNamed Bd.named
  have hnm := (name_of_methodNamed Bd.named Bd.method).1
  have X0 : Stand p l e ({ frames := 0, cells := 0, slots := 0, locals := 0 } : Room) s m #[(.int p1), (.int p2)] below meth c s₁ [] 0 0 := Stand.of_body Bd
  have e0 : s₁.heap = h0 := by rw [← hh, Bd.state]; rfl
  have N0 := Fr.nil n0
  have pre0 : ∀ t, Steps p.tables e below (s₁.setTop (mkF m 0 #[.val (.int p1), .val (.int p2)] [])) t → Steps p.tables e below (s₁.setTop (entryFrame m #[(.int p1), (.int p2)] 2)) t := fun t k => castTop (ef_1 m p1 p2) k

  obtain ⟨fs, hr, hrun, hended, hW, hsame⟩ := X0.leave (v := some (.int p2)) (fun h => by rw [Bd.returns] at h; cases h)
  refine ⟨_, _, pre0 _ ?_, hrun, hended, _, _, rfl, ?_, ⟨_, rfl⟩, hW, hsame.mono (by decide) (by decide)⟩
  · show Steps p.tables e below (s₁.setTop (mkF m 0 #[.val (.int p1), .val (.int p2)] [])) _
    refine XS.iloadN X0.here hx rfl (hb hby d1_0) rfl ?_
    show Steps p.tables e below (s₁.setTop (mkF m 1 #[.val (.int p1), .val (.int p2)] [(.int p1)])) _
    refine XS.iloadN X0.here hx rfl (hb hby d1_1) rfl ?_
    show Steps p.tables e below (s₁.setTop (mkF m 2 #[.val (.int p1), .val (.int p2)] [(.int p2), (.int p1)])) _
    refine XS.icmpYes X0.here hx rfl (pc0 := 2) (pc' := 9) rfl (hb hby d1_2) rfl (tlt hc2).1 (by decide) (by decide) ?_
    show Steps p.tables e below (s₁.setTop (mkF m 9 #[.val (.int p1), .val (.int p2)] [])) _
    refine XS.iloadN X0.here hx rfl (hb hby d1_9) rfl ?_
    show Steps p.tables e below (s₁.setTop (mkF m 10 #[.val (.int p1), .val (.int p2)] [(.int p2)])) _
    exact retI X0 hx Bd.returns (hb hby d1_10) hr
  · show Q1b Z p1 p2 h0 n0 _ s₁.heap _
    rw [e0]
    exact ⟨rfl, N0, rfl⟩
def own_f1 (p1 : Int32) (p2 : Int32) : Int32 := (if p1 < p2 then p2 else p1)
theorem rm1 (l : Launch) (Z : State) (a0 : Array Value) (hw : ∀ d ∈ tables_1, d.before a0 Z = true) (ws : List Jvm.Cond) (p1 : Int32) (p2 : Int32) (h0 : Heap) (n0 : Nat) (Z0 : n0 ≤ h0.size) :
    MetFree l (⟨"java/lang/Math", "max", "(II)I"⟩ : MethodName) (head1 (Jvm.Cond.code (⟨"java/lang/Math", "max", "(II)I"⟩ : MethodName) jdk_29_method_65_code 2 (some .int) :: ws) ({ frames := 0, cells := 0, slots := 0, locals := 0 } : Room)) (fun a U => a = #[(.int p1), (.int p2)] ∧ Z.Warmed39 U.vm ∧ U.heap = h0) (fun _ _ _ _ _ => True) (fun _ U o U' => ∃ v L, o = .returned v ∧ own_Qr h0 n0 (.int (own_f1 p1 p2)) v U'.heap L ∧ FrameEnd U o U' L ({ frames := 0, cells := 0, slots := 0, locals := 0 } : Room).cells ({ frames := 0, cells := 0, slots := 0, locals := 0 } : Room).slots) := by
  unfold own_f1
  by_cases hc2 : p1 < p2
  · rw [if_pos hc2]
    exact rm1b l Z a0 hw ws p1 p2 h0 n0 Z0 hc2
  · rw [if_neg hc2]
    exact rm1a l Z a0 hw ws p1 p2 h0 n0 Z0 hc2
theorem d8_0 : decode prog_29_method_4_code 0 = .ok (.lload_n 0, 1) := by decide +kernel
theorem d8_1 : decode prog_29_method_4_code 1 = .ok (.lstore_n 2, 1) := by decide +kernel
theorem d8_2 : decode prog_29_method_4_code 2 = .ok (.lload_n 2, 1) := by decide +kernel
theorem d8_3 : decode prog_29_method_4_code 3 = .ok (.lload_n 2, 1) := by decide +kernel
theorem d8_4 : decode prog_29_method_4_code 4 = .ok (.bipush 33, 2) := by decide +kernel
theorem d8_6 : decode prog_29_method_4_code 6 = .ok (.lushr, 1) := by decide +kernel
theorem d8_7 : decode prog_29_method_4_code 7 = .ok (.lxor, 1) := by decide +kernel
theorem d8_8 : decode prog_29_method_4_code 8 = .ok (.ldc2_w 50, 3) := by decide +kernel
theorem d8_11 : decode prog_29_method_4_code 11 = .ok (.lmul, 1) := by decide +kernel
theorem d8_12 : decode prog_29_method_4_code 12 = .ok (.lstore_n 2, 1) := by decide +kernel
theorem d8_13 : decode prog_29_method_4_code 13 = .ok (.lload_n 2, 1) := by decide +kernel
theorem d8_14 : decode prog_29_method_4_code 14 = .ok (.lload_n 2, 1) := by decide +kernel
theorem d8_15 : decode prog_29_method_4_code 15 = .ok (.bipush 33, 2) := by decide +kernel
theorem d8_17 : decode prog_29_method_4_code 17 = .ok (.lushr, 1) := by decide +kernel
theorem d8_18 : decode prog_29_method_4_code 18 = .ok (.lxor, 1) := by decide +kernel
theorem d8_19 : decode prog_29_method_4_code 19 = .ok (.ldc2_w 52, 3) := by decide +kernel
theorem d8_22 : decode prog_29_method_4_code 22 = .ok (.lmul, 1) := by decide +kernel
theorem d8_23 : decode prog_29_method_4_code 23 = .ok (.lstore_n 2, 1) := by decide +kernel
theorem d8_24 : decode prog_29_method_4_code 24 = .ok (.lload_n 2, 1) := by decide +kernel
theorem d8_25 : decode prog_29_method_4_code 25 = .ok (.lload_n 2, 1) := by decide +kernel
theorem d8_26 : decode prog_29_method_4_code 26 = .ok (.bipush 33, 2) := by decide +kernel
theorem d8_28 : decode prog_29_method_4_code 28 = .ok (.lushr, 1) := by decide +kernel
theorem d8_29 : decode prog_29_method_4_code 29 = .ok (.lxor, 1) := by decide +kernel
theorem d8_30 : decode prog_29_method_4_code 30 = .ok (.lreturn, 1) := by decide +kernel
theorem pn_8 : plainName "com/example/syncline/syncline/client/bench/Scatter" = true := by first | (simp [plainName, overriddenIn]; done) | decide +kernel
theorem ef_8 (m : MethodId) (x0 : Int64) : entryFrame m #[(.long x0)] 4 = mkF m 0 #[.val (.long x0), .second, .unset, .unset] [] := by first | (simp [entryFrame, mkF, argsToLocals, Value.category]; done) | rfl
def Q8a (Z : State) (q1 : Int64) (h0 : Heap) (n0 : Nat) (v : Option Value) (h : Heap) (L : List Loc) : Prop := v = some (.long (((((q1 ^^^ ((q1.toUInt64 >>> ((33 : Int32) &&& 0x3f).toInt64.toUInt64).toInt64)) * (-49064778989728563 : Int64)) ^^^ ((((q1 ^^^ ((q1.toUInt64 >>> ((33 : Int32) &&& 0x3f).toInt64.toUInt64).toInt64)) * (-49064778989728563 : Int64)).toUInt64 >>> ((33 : Int32) &&& 0x3f).toInt64.toUInt64).toInt64)) * (-4265267296055464877 : Int64)) ^^^ ((((((q1 ^^^ ((q1.toUInt64 >>> ((33 : Int32) &&& 0x3f).toInt64.toUInt64).toInt64)) * (-49064778989728563 : Int64)) ^^^ ((((q1 ^^^ ((q1.toUInt64 >>> ((33 : Int32) &&& 0x3f).toInt64.toUInt64).toInt64)) * (-49064778989728563 : Int64)).toUInt64 >>> ((33 : Int32) &&& 0x3f).toInt64.toUInt64).toInt64)) * (-4265267296055464877 : Int64)).toUInt64 >>> ((33 : Int32) &&& 0x3f).toInt64.toUInt64).toInt64))) ∧ Fr n0 L ∧ h = h0
set_option maxRecDepth 65536 in
set_option maxHeartbeats 40000000 in
theorem rm8a (l : Launch) (Z : State) (a0 : Array Value) (hw : ∀ d ∈ tables_1, d.before a0 Z = true) (ws : List Jvm.Cond) (q1 : Int64) (h0 : Heap) (n0 : Nat) (Z0 : n0 ≤ h0.size) :
    MetFree l (⟨"com/example/syncline/syncline/client/bench/Scatter", "mix", "(J)J"⟩ : MethodName) (head1 (Jvm.Cond.code (⟨"com/example/syncline/syncline/client/bench/Scatter", "mix", "(J)J"⟩ : MethodName) prog_29_method_4_code 4 (some .long) :: ws) ({ frames := 0, cells := 0, slots := 0, locals := 0 } : Room)) (fun a U => a = #[(.long q1)] ∧ Z.Warmed39 U.vm ∧ U.heap = h0) (fun _ _ _ _ _ => True) (fun _ U o U' => ∃ v L, o = .returned v ∧ Q8a Z q1 h0 n0 v U'.heap L ∧ FrameEnd U o U' L ({ frames := 0, cells := 0, slots := 0, locals := 0 } : Room).cells ({ frames := 0, cells := 0, slots := 0, locals := 0 } : Room).slots) := by
  refine MetFree.of_bodySF (plainFor_of_name pn_8) hisR ?_
  intro p e s m args below meth c s₁ Bd hml0 hP hK
  obtain ⟨rfl, hZ, hh⟩ := hP
  have hx := Bd.exec
  have hby := Bd.bytes
  have hml : c.maxLocals = 4 := hml0
  have hown : s.vm.findClass "com/example/syncline/syncline/client/bench/Scatter" = some m.cls := findClass_of_methodNamed Bd.named
  have hnm := (name_of_methodNamed Bd.named Bd.method).1
  have X0 : Stand p l e ({ frames := 0, cells := 0, slots := 0, locals := 0 } : Room) s m #[(.long q1)] below meth c s₁ [] 0 0 := Stand.of_body Bd
  have e0 : s₁.heap = h0 := by rw [← hh, Bd.state]; rfl
  have N0 := Fr.nil n0
  have pre0 : ∀ t, Steps p.tables e below (s₁.setTop (mkF m 0 #[.val (.long q1), .second, .unset, .unset] [])) t → Steps p.tables e below (s₁.setTop (entryFrame m #[(.long q1)] 4)) t := fun t k => castTop (ef_8 m q1) k

  obtain ⟨fs, hr, hrun, hended, hW, hsame⟩ := X0.leave (v := some (.long (((((q1 ^^^ ((q1.toUInt64 >>> ((33 : Int32) &&& 0x3f).toInt64.toUInt64).toInt64)) * (-49064778989728563 : Int64)) ^^^ ((((q1 ^^^ ((q1.toUInt64 >>> ((33 : Int32) &&& 0x3f).toInt64.toUInt64).toInt64)) * (-49064778989728563 : Int64)).toUInt64 >>> ((33 : Int32) &&& 0x3f).toInt64.toUInt64).toInt64)) * (-4265267296055464877 : Int64)) ^^^ ((((((q1 ^^^ ((q1.toUInt64 >>> ((33 : Int32) &&& 0x3f).toInt64.toUInt64).toInt64)) * (-49064778989728563 : Int64)) ^^^ ((((q1 ^^^ ((q1.toUInt64 >>> ((33 : Int32) &&& 0x3f).toInt64.toUInt64).toInt64)) * (-49064778989728563 : Int64)).toUInt64 >>> ((33 : Int32) &&& 0x3f).toInt64.toUInt64).toInt64)) * (-4265267296055464877 : Int64)).toUInt64 >>> ((33 : Int32) &&& 0x3f).toInt64.toUInt64).toInt64)))) (fun h => by rw [Bd.returns] at h; cases h)
  refine ⟨_, _, pre0 _ ?_, hrun, hended, _, _, rfl, ?_, ⟨_, rfl⟩, hW, hsame.mono (by decide) (by decide)⟩
  · show Steps p.tables e below (s₁.setTop (mkF m 0 #[.val (.long q1), .second, .unset, .unset] [])) _
    refine XS.lloadN X0.here hx rfl (hb hby d8_0) rfl ?_
    show Steps p.tables e below (s₁.setTop (mkF m 1 #[.val (.long q1), .second, .unset, .unset] [(.long q1)])) _
    refine XS.lstoreN X0.here hx rfl (hb hby d8_1) rfl (l' := #[.val (.long q1), .second, .val (.long q1), .second]) rfl ?_
    show Steps p.tables e below (s₁.setTop (mkF m 2 #[.val (.long q1), .second, .val (.long q1), .second] [])) _
    refine XS.lloadN X0.here hx rfl (hb hby d8_2) rfl ?_
    show Steps p.tables e below (s₁.setTop (mkF m 3 #[.val (.long q1), .second, .val (.long q1), .second] [(.long q1)])) _
    refine XS.lloadN X0.here hx rfl (hb hby d8_3) rfl ?_
    show Steps p.tables e below (s₁.setTop (mkF m 4 #[.val (.long q1), .second, .val (.long q1), .second] [(.long q1), (.long q1)])) _
    refine XS.bipush X0.here hx rfl (hb hby d8_4) ?_
    show Steps p.tables e below (s₁.setTop (mkF m 6 #[.val (.long q1), .second, .val (.long q1), .second] [(.int (33 : Int32)), (.long q1), (.long q1)])) _
    refine XS.lushr X0.here hx rfl (hb hby d8_6) rfl ?_
    show Steps p.tables e below (s₁.setTop (mkF m 7 #[.val (.long q1), .second, .val (.long q1), .second] [(.long ((q1.toUInt64 >>> ((33 : Int32) &&& 0x3f).toInt64.toUInt64).toInt64)), (.long q1)])) _
    refine XS.lxor X0.here hx rfl (hb hby d8_7) rfl ?_
    show Steps p.tables e below (s₁.setTop (mkF m 8 #[.val (.long q1), .second, .val (.long q1), .second] [(.long (q1 ^^^ ((q1.toUInt64 >>> ((33 : Int32) &&& 0x3f).toInt64.toUInt64).toInt64)))])) _
    refine X0.ldc2Long hx hown (mvT hZ (hw _ (List.mem_of_getElem? (i := 42) rfl))) (g := (mkF m 8 #[.val (.long q1), .second, .val (.long q1), .second] [(.long (q1 ^^^ ((q1.toUInt64 >>> ((33 : Int32) &&& 0x3f).toInt64.toUInt64).toInt64)))])) rfl (hb hby d8_8) _ ?_
    show Steps p.tables e below (s₁.setTop (mkF m 11 #[.val (.long q1), .second, .val (.long q1), .second] [(.long (-49064778989728563 : Int64)), (.long (q1 ^^^ ((q1.toUInt64 >>> ((33 : Int32) &&& 0x3f).toInt64.toUInt64).toInt64)))])) _
    refine XS.lmul X0.here hx rfl (hb hby d8_11) rfl ?_
    show Steps p.tables e below (s₁.setTop (mkF m 12 #[.val (.long q1), .second, .val (.long q1), .second] [(.long ((q1 ^^^ ((q1.toUInt64 >>> ((33 : Int32) &&& 0x3f).toInt64.toUInt64).toInt64)) * (-49064778989728563 : Int64)))])) _
    refine XS.lstoreN X0.here hx rfl (hb hby d8_12) rfl (l' := #[.val (.long q1), .second, .val (.long ((q1 ^^^ ((q1.toUInt64 >>> ((33 : Int32) &&& 0x3f).toInt64.toUInt64).toInt64)) * (-49064778989728563 : Int64))), .second]) rfl ?_
    show Steps p.tables e below (s₁.setTop (mkF m 13 #[.val (.long q1), .second, .val (.long ((q1 ^^^ ((q1.toUInt64 >>> ((33 : Int32) &&& 0x3f).toInt64.toUInt64).toInt64)) * (-49064778989728563 : Int64))), .second] [])) _
    refine XS.lloadN X0.here hx rfl (hb hby d8_13) rfl ?_
    show Steps p.tables e below (s₁.setTop (mkF m 14 #[.val (.long q1), .second, .val (.long ((q1 ^^^ ((q1.toUInt64 >>> ((33 : Int32) &&& 0x3f).toInt64.toUInt64).toInt64)) * (-49064778989728563 : Int64))), .second] [(.long ((q1 ^^^ ((q1.toUInt64 >>> ((33 : Int32) &&& 0x3f).toInt64.toUInt64).toInt64)) * (-49064778989728563 : Int64)))])) _
    refine XS.lloadN X0.here hx rfl (hb hby d8_14) rfl ?_
    show Steps p.tables e below (s₁.setTop (mkF m 15 #[.val (.long q1), .second, .val (.long ((q1 ^^^ ((q1.toUInt64 >>> ((33 : Int32) &&& 0x3f).toInt64.toUInt64).toInt64)) * (-49064778989728563 : Int64))), .second] [(.long ((q1 ^^^ ((q1.toUInt64 >>> ((33 : Int32) &&& 0x3f).toInt64.toUInt64).toInt64)) * (-49064778989728563 : Int64))), (.long ((q1 ^^^ ((q1.toUInt64 >>> ((33 : Int32) &&& 0x3f).toInt64.toUInt64).toInt64)) * (-49064778989728563 : Int64)))])) _
    refine XS.bipush X0.here hx rfl (hb hby d8_15) ?_
    show Steps p.tables e below (s₁.setTop (mkF m 17 #[.val (.long q1), .second, .val (.long ((q1 ^^^ ((q1.toUInt64 >>> ((33 : Int32) &&& 0x3f).toInt64.toUInt64).toInt64)) * (-49064778989728563 : Int64))), .second] [(.int (33 : Int32)), (.long ((q1 ^^^ ((q1.toUInt64 >>> ((33 : Int32) &&& 0x3f).toInt64.toUInt64).toInt64)) * (-49064778989728563 : Int64))), (.long ((q1 ^^^ ((q1.toUInt64 >>> ((33 : Int32) &&& 0x3f).toInt64.toUInt64).toInt64)) * (-49064778989728563 : Int64)))])) _
    refine XS.lushr X0.here hx rfl (hb hby d8_17) rfl ?_
    show Steps p.tables e below (s₁.setTop (mkF m 18 #[.val (.long q1), .second, .val (.long ((q1 ^^^ ((q1.toUInt64 >>> ((33 : Int32) &&& 0x3f).toInt64.toUInt64).toInt64)) * (-49064778989728563 : Int64))), .second] [(.long ((((q1 ^^^ ((q1.toUInt64 >>> ((33 : Int32) &&& 0x3f).toInt64.toUInt64).toInt64)) * (-49064778989728563 : Int64)).toUInt64 >>> ((33 : Int32) &&& 0x3f).toInt64.toUInt64).toInt64)), (.long ((q1 ^^^ ((q1.toUInt64 >>> ((33 : Int32) &&& 0x3f).toInt64.toUInt64).toInt64)) * (-49064778989728563 : Int64)))])) _
    refine XS.lxor X0.here hx rfl (hb hby d8_18) rfl ?_
    show Steps p.tables e below (s₁.setTop (mkF m 19 #[.val (.long q1), .second, .val (.long ((q1 ^^^ ((q1.toUInt64 >>> ((33 : Int32) &&& 0x3f).toInt64.toUInt64).toInt64)) * (-49064778989728563 : Int64))), .second] [(.long (((q1 ^^^ ((q1.toUInt64 >>> ((33 : Int32) &&& 0x3f).toInt64.toUInt64).toInt64)) * (-49064778989728563 : Int64)) ^^^ ((((q1 ^^^ ((q1.toUInt64 >>> ((33 : Int32) &&& 0x3f).toInt64.toUInt64).toInt64)) * (-49064778989728563 : Int64)).toUInt64 >>> ((33 : Int32) &&& 0x3f).toInt64.toUInt64).toInt64)))])) _
    refine X0.ldc2Long hx hown (mvT hZ (hw _ (List.mem_of_getElem? (i := 43) rfl))) (g := (mkF m 19 #[.val (.long q1), .second, .val (.long ((q1 ^^^ ((q1.toUInt64 >>> ((33 : Int32) &&& 0x3f).toInt64.toUInt64).toInt64)) * (-49064778989728563 : Int64))), .second] [(.long (((q1 ^^^ ((q1.toUInt64 >>> ((33 : Int32) &&& 0x3f).toInt64.toUInt64).toInt64)) * (-49064778989728563 : Int64)) ^^^ ((((q1 ^^^ ((q1.toUInt64 >>> ((33 : Int32) &&& 0x3f).toInt64.toUInt64).toInt64)) * (-49064778989728563 : Int64)).toUInt64 >>> ((33 : Int32) &&& 0x3f).toInt64.toUInt64).toInt64)))])) rfl (hb hby d8_19) _ ?_
    show Steps p.tables e below (s₁.setTop (mkF m 22 #[.val (.long q1), .second, .val (.long ((q1 ^^^ ((q1.toUInt64 >>> ((33 : Int32) &&& 0x3f).toInt64.toUInt64).toInt64)) * (-49064778989728563 : Int64))), .second] [(.long (-4265267296055464877 : Int64)), (.long (((q1 ^^^ ((q1.toUInt64 >>> ((33 : Int32) &&& 0x3f).toInt64.toUInt64).toInt64)) * (-49064778989728563 : Int64)) ^^^ ((((q1 ^^^ ((q1.toUInt64 >>> ((33 : Int32) &&& 0x3f).toInt64.toUInt64).toInt64)) * (-49064778989728563 : Int64)).toUInt64 >>> ((33 : Int32) &&& 0x3f).toInt64.toUInt64).toInt64)))])) _
    refine XS.lmul X0.here hx rfl (hb hby d8_22) rfl ?_
    show Steps p.tables e below (s₁.setTop (mkF m 23 #[.val (.long q1), .second, .val (.long ((q1 ^^^ ((q1.toUInt64 >>> ((33 : Int32) &&& 0x3f).toInt64.toUInt64).toInt64)) * (-49064778989728563 : Int64))), .second] [(.long ((((q1 ^^^ ((q1.toUInt64 >>> ((33 : Int32) &&& 0x3f).toInt64.toUInt64).toInt64)) * (-49064778989728563 : Int64)) ^^^ ((((q1 ^^^ ((q1.toUInt64 >>> ((33 : Int32) &&& 0x3f).toInt64.toUInt64).toInt64)) * (-49064778989728563 : Int64)).toUInt64 >>> ((33 : Int32) &&& 0x3f).toInt64.toUInt64).toInt64)) * (-4265267296055464877 : Int64)))])) _
    refine XS.lstoreN X0.here hx rfl (hb hby d8_23) rfl (l' := #[.val (.long q1), .second, .val (.long ((((q1 ^^^ ((q1.toUInt64 >>> ((33 : Int32) &&& 0x3f).toInt64.toUInt64).toInt64)) * (-49064778989728563 : Int64)) ^^^ ((((q1 ^^^ ((q1.toUInt64 >>> ((33 : Int32) &&& 0x3f).toInt64.toUInt64).toInt64)) * (-49064778989728563 : Int64)).toUInt64 >>> ((33 : Int32) &&& 0x3f).toInt64.toUInt64).toInt64)) * (-4265267296055464877 : Int64))), .second]) rfl ?_
    show Steps p.tables e below (s₁.setTop (mkF m 24 #[.val (.long q1), .second, .val (.long ((((q1 ^^^ ((q1.toUInt64 >>> ((33 : Int32) &&& 0x3f).toInt64.toUInt64).toInt64)) * (-49064778989728563 : Int64)) ^^^ ((((q1 ^^^ ((q1.toUInt64 >>> ((33 : Int32) &&& 0x3f).toInt64.toUInt64).toInt64)) * (-49064778989728563 : Int64)).toUInt64 >>> ((33 : Int32) &&& 0x3f).toInt64.toUInt64).toInt64)) * (-4265267296055464877 : Int64))), .second] [])) _
    refine XS.lloadN X0.here hx rfl (hb hby d8_24) rfl ?_
    show Steps p.tables e below (s₁.setTop (mkF m 25 #[.val (.long q1), .second, .val (.long ((((q1 ^^^ ((q1.toUInt64 >>> ((33 : Int32) &&& 0x3f).toInt64.toUInt64).toInt64)) * (-49064778989728563 : Int64)) ^^^ ((((q1 ^^^ ((q1.toUInt64 >>> ((33 : Int32) &&& 0x3f).toInt64.toUInt64).toInt64)) * (-49064778989728563 : Int64)).toUInt64 >>> ((33 : Int32) &&& 0x3f).toInt64.toUInt64).toInt64)) * (-4265267296055464877 : Int64))), .second] [(.long ((((q1 ^^^ ((q1.toUInt64 >>> ((33 : Int32) &&& 0x3f).toInt64.toUInt64).toInt64)) * (-49064778989728563 : Int64)) ^^^ ((((q1 ^^^ ((q1.toUInt64 >>> ((33 : Int32) &&& 0x3f).toInt64.toUInt64).toInt64)) * (-49064778989728563 : Int64)).toUInt64 >>> ((33 : Int32) &&& 0x3f).toInt64.toUInt64).toInt64)) * (-4265267296055464877 : Int64)))])) _
    refine XS.lloadN X0.here hx rfl (hb hby d8_25) rfl ?_
    show Steps p.tables e below (s₁.setTop (mkF m 26 #[.val (.long q1), .second, .val (.long ((((q1 ^^^ ((q1.toUInt64 >>> ((33 : Int32) &&& 0x3f).toInt64.toUInt64).toInt64)) * (-49064778989728563 : Int64)) ^^^ ((((q1 ^^^ ((q1.toUInt64 >>> ((33 : Int32) &&& 0x3f).toInt64.toUInt64).toInt64)) * (-49064778989728563 : Int64)).toUInt64 >>> ((33 : Int32) &&& 0x3f).toInt64.toUInt64).toInt64)) * (-4265267296055464877 : Int64))), .second] [(.long ((((q1 ^^^ ((q1.toUInt64 >>> ((33 : Int32) &&& 0x3f).toInt64.toUInt64).toInt64)) * (-49064778989728563 : Int64)) ^^^ ((((q1 ^^^ ((q1.toUInt64 >>> ((33 : Int32) &&& 0x3f).toInt64.toUInt64).toInt64)) * (-49064778989728563 : Int64)).toUInt64 >>> ((33 : Int32) &&& 0x3f).toInt64.toUInt64).toInt64)) * (-4265267296055464877 : Int64))), (.long ((((q1 ^^^ ((q1.toUInt64 >>> ((33 : Int32) &&& 0x3f).toInt64.toUInt64).toInt64)) * (-49064778989728563 : Int64)) ^^^ ((((q1 ^^^ ((q1.toUInt64 >>> ((33 : Int32) &&& 0x3f).toInt64.toUInt64).toInt64)) * (-49064778989728563 : Int64)).toUInt64 >>> ((33 : Int32) &&& 0x3f).toInt64.toUInt64).toInt64)) * (-4265267296055464877 : Int64)))])) _
    refine XS.bipush X0.here hx rfl (hb hby d8_26) ?_
    show Steps p.tables e below (s₁.setTop (mkF m 28 #[.val (.long q1), .second, .val (.long ((((q1 ^^^ ((q1.toUInt64 >>> ((33 : Int32) &&& 0x3f).toInt64.toUInt64).toInt64)) * (-49064778989728563 : Int64)) ^^^ ((((q1 ^^^ ((q1.toUInt64 >>> ((33 : Int32) &&& 0x3f).toInt64.toUInt64).toInt64)) * (-49064778989728563 : Int64)).toUInt64 >>> ((33 : Int32) &&& 0x3f).toInt64.toUInt64).toInt64)) * (-4265267296055464877 : Int64))), .second] [(.int (33 : Int32)), (.long ((((q1 ^^^ ((q1.toUInt64 >>> ((33 : Int32) &&& 0x3f).toInt64.toUInt64).toInt64)) * (-49064778989728563 : Int64)) ^^^ ((((q1 ^^^ ((q1.toUInt64 >>> ((33 : Int32) &&& 0x3f).toInt64.toUInt64).toInt64)) * (-49064778989728563 : Int64)).toUInt64 >>> ((33 : Int32) &&& 0x3f).toInt64.toUInt64).toInt64)) * (-4265267296055464877 : Int64))), (.long ((((q1 ^^^ ((q1.toUInt64 >>> ((33 : Int32) &&& 0x3f).toInt64.toUInt64).toInt64)) * (-49064778989728563 : Int64)) ^^^ ((((q1 ^^^ ((q1.toUInt64 >>> ((33 : Int32) &&& 0x3f).toInt64.toUInt64).toInt64)) * (-49064778989728563 : Int64)).toUInt64 >>> ((33 : Int32) &&& 0x3f).toInt64.toUInt64).toInt64)) * (-4265267296055464877 : Int64)))])) _
    refine XS.lushr X0.here hx rfl (hb hby d8_28) rfl ?_
    show Steps p.tables e below (s₁.setTop (mkF m 29 #[.val (.long q1), .second, .val (.long ((((q1 ^^^ ((q1.toUInt64 >>> ((33 : Int32) &&& 0x3f).toInt64.toUInt64).toInt64)) * (-49064778989728563 : Int64)) ^^^ ((((q1 ^^^ ((q1.toUInt64 >>> ((33 : Int32) &&& 0x3f).toInt64.toUInt64).toInt64)) * (-49064778989728563 : Int64)).toUInt64 >>> ((33 : Int32) &&& 0x3f).toInt64.toUInt64).toInt64)) * (-4265267296055464877 : Int64))), .second] [(.long ((((((q1 ^^^ ((q1.toUInt64 >>> ((33 : Int32) &&& 0x3f).toInt64.toUInt64).toInt64)) * (-49064778989728563 : Int64)) ^^^ ((((q1 ^^^ ((q1.toUInt64 >>> ((33 : Int32) &&& 0x3f).toInt64.toUInt64).toInt64)) * (-49064778989728563 : Int64)).toUInt64 >>> ((33 : Int32) &&& 0x3f).toInt64.toUInt64).toInt64)) * (-4265267296055464877 : Int64)).toUInt64 >>> ((33 : Int32) &&& 0x3f).toInt64.toUInt64).toInt64)), (.long ((((q1 ^^^ ((q1.toUInt64 >>> ((33 : Int32) &&& 0x3f).toInt64.toUInt64).toInt64)) * (-49064778989728563 : Int64)) ^^^ ((((q1 ^^^ ((q1.toUInt64 >>> ((33 : Int32) &&& 0x3f).toInt64.toUInt64).toInt64)) * (-49064778989728563 : Int64)).toUInt64 >>> ((33 : Int32) &&& 0x3f).toInt64.toUInt64).toInt64)) * (-4265267296055464877 : Int64)))])) _
    refine XS.lxor X0.here hx rfl (hb hby d8_29) rfl ?_
    show Steps p.tables e below (s₁.setTop (mkF m 30 #[.val (.long q1), .second, .val (.long ((((q1 ^^^ ((q1.toUInt64 >>> ((33 : Int32) &&& 0x3f).toInt64.toUInt64).toInt64)) * (-49064778989728563 : Int64)) ^^^ ((((q1 ^^^ ((q1.toUInt64 >>> ((33 : Int32) &&& 0x3f).toInt64.toUInt64).toInt64)) * (-49064778989728563 : Int64)).toUInt64 >>> ((33 : Int32) &&& 0x3f).toInt64.toUInt64).toInt64)) * (-4265267296055464877 : Int64))), .second] [(.long (((((q1 ^^^ ((q1.toUInt64 >>> ((33 : Int32) &&& 0x3f).toInt64.toUInt64).toInt64)) * (-49064778989728563 : Int64)) ^^^ ((((q1 ^^^ ((q1.toUInt64 >>> ((33 : Int32) &&& 0x3f).toInt64.toUInt64).toInt64)) * (-49064778989728563 : Int64)).toUInt64 >>> ((33 : Int32) &&& 0x3f).toInt64.toUInt64).toInt64)) * (-4265267296055464877 : Int64)) ^^^ ((((((q1 ^^^ ((q1.toUInt64 >>> ((33 : Int32) &&& 0x3f).toInt64.toUInt64).toInt64)) * (-49064778989728563 : Int64)) ^^^ ((((q1 ^^^ ((q1.toUInt64 >>> ((33 : Int32) &&& 0x3f).toInt64.toUInt64).toInt64)) * (-49064778989728563 : Int64)).toUInt64 >>> ((33 : Int32) &&& 0x3f).toInt64.toUInt64).toInt64)) * (-4265267296055464877 : Int64)).toUInt64 >>> ((33 : Int32) &&& 0x3f).toInt64.toUInt64).toInt64)))])) _
    exact own_retL X0 hx Bd.returns (hb hby d8_30) hr
  · show Q8a Z q1 h0 n0 _ s₁.heap _
    rw [e0]
    exact ⟨rfl, N0, rfl⟩
def own_f8 (q1 : Int64) : Int64 := (((((q1 ^^^ ((q1.toUInt64 >>> ((33 : Int32) &&& 0x3f).toInt64.toUInt64).toInt64)) * (-49064778989728563 : Int64)) ^^^ ((((q1 ^^^ ((q1.toUInt64 >>> ((33 : Int32) &&& 0x3f).toInt64.toUInt64).toInt64)) * (-49064778989728563 : Int64)).toUInt64 >>> ((33 : Int32) &&& 0x3f).toInt64.toUInt64).toInt64)) * (-4265267296055464877 : Int64)) ^^^ ((((((q1 ^^^ ((q1.toUInt64 >>> ((33 : Int32) &&& 0x3f).toInt64.toUInt64).toInt64)) * (-49064778989728563 : Int64)) ^^^ ((((q1 ^^^ ((q1.toUInt64 >>> ((33 : Int32) &&& 0x3f).toInt64.toUInt64).toInt64)) * (-49064778989728563 : Int64)).toUInt64 >>> ((33 : Int32) &&& 0x3f).toInt64.toUInt64).toInt64)) * (-4265267296055464877 : Int64)).toUInt64 >>> ((33 : Int32) &&& 0x3f).toInt64.toUInt64).toInt64))
theorem rm8 (l : Launch) (Z : State) (a0 : Array Value) (hw : ∀ d ∈ tables_1, d.before a0 Z = true) (ws : List Jvm.Cond) (q1 : Int64) (h0 : Heap) (n0 : Nat) (Z0 : n0 ≤ h0.size) :
    MetFree l (⟨"com/example/syncline/syncline/client/bench/Scatter", "mix", "(J)J"⟩ : MethodName) (head1 (Jvm.Cond.code (⟨"com/example/syncline/syncline/client/bench/Scatter", "mix", "(J)J"⟩ : MethodName) prog_29_method_4_code 4 (some .long) :: ws) ({ frames := 0, cells := 0, slots := 0, locals := 0 } : Room)) (fun a U => a = #[(.long q1)] ∧ Z.Warmed39 U.vm ∧ U.heap = h0) (fun _ _ _ _ _ => True) (fun _ U o U' => ∃ v L, o = .returned v ∧ own_Qr h0 n0 (.long (own_f8 q1)) v U'.heap L ∧ FrameEnd U o U' L ({ frames := 0, cells := 0, slots := 0, locals := 0 } : Room).cells ({ frames := 0, cells := 0, slots := 0, locals := 0 } : Room).slots) := by
  unfold own_f8
  exact rm8a l Z a0 hw ws q1 h0 n0 Z0 

def own_F (hm : Int64) (r : Int32) (x : Int64) : Int64 := own_f8 (x + r.toInt64 * (-7046029254386353131 : Int64)) &&& hm
theorem own_F_lt {h : Nat} (hh : h < 17) (r : Int32) (x : Int64) : own_n (own_F (own_hm (Int32.ofNat h)) r x) < 2 ^ h := by
  unfold own_F; rw [own_n_mask _ hh]; exact Nat.mod_lt _ (Nat.two_pow_pos h)
def own_s (b s : Nat) (x : Nat × Nat) : Nat × Nat := if x.1 < b then x else (x.1 / 2 ^ s, x.2 - s)
def own_y1 (v : Nat) : Nat × Nat := own_s 65536 16 (v, 31)
def own_y2 (v : Nat) : Nat × Nat := own_s 256 8 (own_y1 v)
def own_y3 (v : Nat) : Nat × Nat := own_s 16 4 (own_y2 v)
def own_y4 (v : Nat) : Nat × Nat := own_s 4 2 (own_y3 v)
def own_nlz (v : Nat) : Nat := if v = 0 then 32 else (own_y4 v).2 - (own_y4 v).1 / 2
theorem own_s_inv {b s v : Nat} {x : Nat × Nat} (h1 : s ≤ x.2) (h2 : x.2 ≤ 31) (h : v < (x.1 + 1) * 2 ^ (31 - x.2)) : v < ((own_s b s x).1 + 1) * 2 ^ (31 - (own_s b s x).2) := by
  unfold own_s
  split
  · exact h
  · show v < (x.1 / 2 ^ s + 1) * 2 ^ (31 - (x.2 - s))
    have e : 31 - (x.2 - s) = s + (31 - x.2) := by omega
    rw [e, Nat.pow_add, ← Nat.mul_assoc]
    refine Nat.lt_of_lt_of_le h (Nat.mul_le_mul_right _ ?_)
    have h3 := Nat.div_add_mod x.1 (2 ^ s)
    have h4 := Nat.mod_lt x.1 (Nat.two_pow_pos s)
    rw [Nat.add_mul, Nat.one_mul, Nat.mul_comm]; omega
theorem own_s_lt {b s B : Nat} {x : Nat × Nat} (h : x.1 < B) (hB : B ≤ b * 2 ^ s) : (own_s b s x).1 < b := by
  unfold own_s
  split
  · assumption
  · exact Nat.div_lt_of_lt_mul (by rw [Nat.mul_comm]; omega)
theorem own_s_ge {b s : Nat} {x : Nat × Nat} {n : Nat} (h : n + s ≤ x.2) : n ≤ (own_s b s x).2 := by
  unfold own_s; split
  · omega
  · show n ≤ x.2 - s; omega
theorem own_s_le {b s : Nat} {x : Nat × Nat} (h : x.2 ≤ 31) : (own_s b s x).2 ≤ 31 := by
  unfold own_s; split
  · exact h
  · show x.2 - s ≤ 31; omega
theorem own_y_facts {v : Nat} (hv : v < 2147483648) : (own_y1 v).1 < 65536 ∧ 15 ≤ (own_y1 v).2 ∧ (own_y1 v).2 ≤ 31 ∧ (own_y2 v).1 < 256 ∧ 7 ≤ (own_y2 v).2 ∧ (own_y2 v).2 ≤ 31 ∧ (own_y3 v).1 < 16 ∧ 3 ≤ (own_y3 v).2 ∧ (own_y3 v).2 ≤ 31 ∧ (own_y4 v).1 < 4 ∧ 1 ≤ (own_y4 v).2 ∧ (own_y4 v).2 ≤ 31 := by
  have a1 : (own_y1 v).1 < 65536 := own_s_lt (x := (v, 31)) (B := 2147483648) hv (by decide)
  have a2 : 15 ≤ (own_y1 v).2 := own_s_ge (x := (v, 31)) (Nat.le_refl 31)
  have a3 : (own_y1 v).2 ≤ 31 := own_s_le (x := (v, 31)) (Nat.le_refl 31)
  have b1 : (own_y2 v).1 < 256 := own_s_lt a1 (by decide)
  have b2 : 7 ≤ (own_y2 v).2 := own_s_ge (by omega)
  have b3 : (own_y2 v).2 ≤ 31 := own_s_le a3
  have c1 : (own_y3 v).1 < 16 := own_s_lt b1 (by decide)
  have c2 : 3 ≤ (own_y3 v).2 := own_s_ge (by omega)
  have c3 : (own_y3 v).2 ≤ 31 := own_s_le b3
  exact ⟨a1, a2, a3, b1, b2, b3, c1, c2, c3, own_s_lt c1 (by decide), own_s_ge (by omega), own_s_le c3⟩
theorem own_nlz_le {v : Nat} (hv : v < 2147483648) : own_nlz v ≤ 32 := by
  obtain ⟨-, -, -, -, -, -, -, -, -, -, -, h⟩ := own_y_facts hv
  unfold own_nlz; split <;> omega
theorem own_nlz_spec {v : Nat} (hv : v < 2147483648) : v < 2 ^ (32 - own_nlz v) := by
  obtain ⟨a1, a2, a3, b1, b2, b3, c1, c2, c3, d1, d2, d3⟩ := own_y_facts hv
  unfold own_nlz
  split
  · subst_vars; decide
  · have i0 : v < (v + 1) * 2 ^ (31 - 31) := by simp
    have i1 : v < ((own_y1 v).1 + 1) * 2 ^ (31 - (own_y1 v).2) := own_s_inv (x := (v, 31)) (by show 16 ≤ 31; decide) (Nat.le_refl 31) i0
    have i2 : v < ((own_y2 v).1 + 1) * 2 ^ (31 - (own_y2 v).2) := own_s_inv (by omega) a3 i1
    have i3 : v < ((own_y3 v).1 + 1) * 2 ^ (31 - (own_y3 v).2) := own_s_inv (by omega) b3 i2
    have i4 : v < ((own_y4 v).1 + 1) * 2 ^ (31 - (own_y4 v).2) := own_s_inv (by omega) c3 i3
    generalize own_y4 v = x at d1 d2 d3 i4
    have e : 32 - (x.2 - x.1 / 2) = (1 + x.1 / 2) + (31 - x.2) := by omega
    rw [e, Nat.pow_add]
    refine Nat.lt_of_lt_of_le i4 (Nat.mul_le_mul_right _ ?_)
    rcases (by omega : x.1 = 0 ∨ x.1 = 1 ∨ x.1 = 2 ∨ x.1 = 3) with q | q | q | q <;> rw [q] <;> decide
theorem own_ush {X s : Nat} (hX : X < 2147483648) (k : Int32) (hk : ((k &&& 31).toUInt32.toBitVec % 32) = BitVec.ofNat 32 s) (hs : s < 32) : ((Int32.ofNat X).toUInt32 >>> (k &&& 31).toUInt32).toInt32 = Int32.ofNat (X / 2 ^ s) := by
  apply Int32.toBitVec_inj.mp
  show ((Int32.ofNat X).toUInt32 >>> (k &&& 31).toUInt32).toBitVec = BitVec.ofNat 32 _
  rw [UInt32.toBitVec_shiftRight, hk]
  show (BitVec.ofNat 32 X) >>> BitVec.ofNat 32 s = _
  apply BitVec.eq_of_toNat_eq
  rw [BitVec.ushiftRight_eq', BitVec.toNat_ushiftRight, BitVec.toNat_ofNat, BitVec.toNat_ofNat, BitVec.toNat_ofNat, Nat.mod_eq_of_lt (by omega), Nat.mod_eq_of_lt (a := s) (by omega), Nat.shiftRight_eq_div_pow, Nat.mod_eq_of_lt]
  exact Nat.lt_of_le_of_lt (Nat.div_le_self _ _) (by omega)
theorem own_subk {N s : Nat} (k : Int32) (hk : k.toInt = -(s : Int)) (h : s ≤ N) (hN : N < 2147483648) : Int32.ofNat N + k = Int32.ofNat (N - s) := by
  apply Int32.toInt_inj.mp
  rw [Int32.toInt_add, own_ti hN, own_ti (by omega), hk, Int.bmod_eq_of_le] <;> omega
theorem own_sb2 {a b : Nat} (h : b ≤ a) (ha : a < 2147483648) : Int32.ofNat a - Int32.ofNat b = Int32.ofNat (a - b) := by
  apply Int32.toInt_inj.mp
  rw [Int32.toInt_sub, own_ti ha, own_ti (by omega), own_ti (by omega), Int.bmod_eq_of_le] <;> omega
theorem d5_0 : decode jdk_33_method_47_code 0 = .ok (.iload_n 0, 1) := by decide +kernel
theorem d5_1 : decode jdk_33_method_47_code 1 = .ok (.ifCond .gt 14, 3) := by decide +kernel
theorem d5_15 : decode jdk_33_method_47_code 15 = .ok (.bipush 31, 2) := by decide +kernel
theorem d5_17 : decode jdk_33_method_47_code 17 = .ok (.istore_n 1, 1) := by decide +kernel
theorem os5_17 {z0 : Value} {s1 : Slot} {v : Int32} (h : One s1) : storeLocals #[.val z0, s1] 1 (.int v) = some #[.val z0, .val (.int v)] := by
  rcases h with rfl | ⟨w, rfl, hw⟩
  · rfl
  · cases w <;> first | rfl | (simp [Value.category] at hw)
set_option maxRecDepth 65536 in
set_option maxHeartbeats 40000000 in
theorem tn5_0_18 {p : Program} {l : Launch} {e : Env} {R : Room} {s : State} {m : MethodId} {args : Array Value} {below : List Frame} {meth : Method} {c : Code} {T0 : State} {locs : List Loc} {cells slots : Nat} {Z : State} {a0 : Array Value} {h0 : Heap} (i0 : Int32)
    (X0 : Stand p l e R s m args below meth c T0 locs cells slots) (hx : p.tables.exec = Jvm.exec) (hZ : Z.Warmed39 s.vm) (hw : ∀ d ∈ tables_1, d.before a0 Z = true) (hby : c.code = jdk_33_method_47_code) (hml : c.maxLocals = 2) (hown : s.vm.findClass "java/lang/Integer" = some m.cls) (e0 : T0.heap = h0) (hs1 : One .unset) (hc1 : (0 : Int32) < i0) :
    ∃ (T' : State), Stand p l e R s m args below meth c T' locs cells slots ∧ T'.heap = h0 ∧
      ∀ target, Steps p.tables e below (T'.setTop (mkF m 18 #[.val (.int i0), .val (.int (31 : Int32))] [])) target → Steps p.tables e below (T0.setTop (mkF m 0 #[.val (.int i0), .unset] [])) target := by

  refine ⟨T0, X0, e0, fun target kt => ?_⟩
  show Steps p.tables e below (T0.setTop (mkF m 0 #[.val (.int i0), .unset] [])) _
  refine XS.iloadN X0.here hx rfl (hb hby d5_0) rfl ?_
  show Steps p.tables e below (T0.setTop (mkF m 1 #[.val (.int i0), .unset] [(.int i0)])) _
  refine XS.ifYes X0.here hx rfl (pc0 := 1) (pc' := 15) rfl (hb hby d5_1) rfl ((if0 _ _).trans (tlt hc1).2.2.1) (by decide) (by decide) ?_
  show Steps p.tables e below (T0.setTop (mkF m 15 #[.val (.int i0), .unset] [])) _
  refine XS.bipush X0.here hx rfl (hb hby d5_15) ?_
  show Steps p.tables e below (T0.setTop (mkF m 17 #[.val (.int i0), .unset] [(.int (31 : Int32))])) _
  refine XS.istoreN X0.here hx rfl (hb hby d5_17) rfl (l' := #[.val (.int i0), .val (.int (31 : Int32))]) (os5_17 hs1) ?_
  exact kt
theorem d5_18 : decode jdk_33_method_47_code 18 = .ok (.iload_n 0, 1) := by decide +kernel
theorem d5_19 : decode jdk_33_method_47_code 19 = .ok (.ldc_w 264, 3) := by decide +kernel
theorem d5_22 : decode jdk_33_method_47_code 22 = .ok (.if_icmp .lt 11, 3) := by decide +kernel
set_option maxRecDepth 65536 in
set_option maxHeartbeats 40000000 in
theorem tk5_18 {p : Program} {l : Launch} {e : Env} {R : Room} {s : State} {m : MethodId} {args : Array Value} {below : List Frame} {meth : Method} {c : Code} {T0 : State} {locs : List Loc} {cells slots : Nat} {Z : State} {a0 : Array Value} {h0 : Heap} (i0 : Int32) (s1 : Slot)
    (X0 : Stand p l e R s m args below meth c T0 locs cells slots) (hx : p.tables.exec = Jvm.exec) (hZ : Z.Warmed39 s.vm) (hw : ∀ d ∈ tables_1, d.before a0 Z = true) (hby : c.code = jdk_33_method_47_code) (hml : c.maxLocals = 2) (hown : s.vm.findClass "java/lang/Integer" = some m.cls) (e0 : T0.heap = h0) (hc22 : i0 < (65536 : Int32)) :
    ∃ (T' : State), Stand p l e R s m args below meth c T' locs cells slots ∧ T'.heap = h0 ∧
      ∀ target, Steps p.tables e below (T'.setTop (mkF m 33 #[.val (.int i0), s1] [])) target → Steps p.tables e below (T0.setTop (mkF m 18 #[.val (.int i0), s1] [])) target := by

  refine ⟨T0, X0, e0, fun target kt => ?_⟩
  show Steps p.tables e below (T0.setTop (mkF m 18 #[.val (.int i0), s1] [])) _
  refine XS.iloadN X0.here hx rfl (hb hby d5_18) rfl ?_
  show Steps p.tables e below (T0.setTop (mkF m 19 #[.val (.int i0), s1] [(.int i0)])) _
  refine X0.ldcwInt hx hown (mvT hZ (hw _ (List.mem_of_getElem? (i := 44) rfl))) (g := (mkF m 19 #[.val (.int i0), s1] [(.int i0)])) rfl (hb hby d5_19) _ ?_
  show Steps p.tables e below (T0.setTop (mkF m 22 #[.val (.int i0), s1] [(.int (65536 : Int32)), (.int i0)])) _
  refine XS.icmpYes X0.here hx rfl (pc0 := 22) (pc' := 33) rfl (hb hby d5_22) rfl (tlt hc22).1 (by decide) (by decide) ?_
  exact kt
theorem d5_25 : decode jdk_33_method_47_code 25 = .ok (.iinc 1 (-16), 3) := by decide +kernel
theorem d5_28 : decode jdk_33_method_47_code 28 = .ok (.iload_n 0, 1) := by decide +kernel
theorem d5_29 : decode jdk_33_method_47_code 29 = .ok (.bipush 16, 2) := by decide +kernel
theorem d5_31 : decode jdk_33_method_47_code 31 = .ok (.iushr, 1) := by decide +kernel
theorem d5_32 : decode jdk_33_method_47_code 32 = .ok (.istore_n 0, 1) := by decide +kernel
set_option maxRecDepth 65536 in
set_option maxHeartbeats 40000000 in
theorem tf5_18 {p : Program} {l : Launch} {e : Env} {R : Room} {s : State} {m : MethodId} {args : Array Value} {below : List Frame} {meth : Method} {c : Code} {T0 : State} {locs : List Loc} {cells slots : Nat} {Z : State} {a0 : Array Value} {h0 : Heap} (i0 : Int32) (i1 : Int32)
    (X0 : Stand p l e R s m args below meth c T0 locs cells slots) (hx : p.tables.exec = Jvm.exec) (hZ : Z.Warmed39 s.vm) (hw : ∀ d ∈ tables_1, d.before a0 Z = true) (hby : c.code = jdk_33_method_47_code) (hml : c.maxLocals = 2) (hown : s.vm.findClass "java/lang/Integer" = some m.cls) (e0 : T0.heap = h0) (hc22 : ¬ (i0 < (65536 : Int32))) :
    ∃ (T' : State), Stand p l e R s m args below meth c T' locs cells slots ∧ T'.heap = h0 ∧
      ∀ target, Steps p.tables e below (T'.setTop (mkF m 33 #[.val (.int ((i0.toUInt32 >>> ((16 : Int32) &&& 31).toUInt32).toInt32)), .val (.int (i1 + (-16 : Int32)))] [])) target → Steps p.tables e below (T0.setTop (mkF m 18 #[.val (.int i0), .val (.int i1)] [])) target := by

  refine ⟨T0, X0, e0, fun target kt => ?_⟩
  show Steps p.tables e below (T0.setTop (mkF m 18 #[.val (.int i0), .val (.int i1)] [])) _
  refine XS.iloadN X0.here hx rfl (hb hby d5_18) rfl ?_
  show Steps p.tables e below (T0.setTop (mkF m 19 #[.val (.int i0), .val (.int i1)] [(.int i0)])) _
  refine X0.ldcwInt hx hown (mvT hZ (hw _ (List.mem_of_getElem? (i := 44) rfl))) (g := (mkF m 19 #[.val (.int i0), .val (.int i1)] [(.int i0)])) rfl (hb hby d5_19) _ ?_
  show Steps p.tables e below (T0.setTop (mkF m 22 #[.val (.int i0), .val (.int i1)] [(.int (65536 : Int32)), (.int i0)])) _
  refine XS.icmpNo X0.here hx rfl (hb hby d5_22) rfl (flt hc22).1 ?_
  show Steps p.tables e below (T0.setTop (mkF m 25 #[.val (.int i0), .val (.int i1)] [])) _
  refine XS.iinc X0.here hx rfl (hb hby d5_25) rfl (l' := #[.val (.int i0), .val (.int (i1 + (-16 : Int32)))]) rfl ?_
  show Steps p.tables e below (T0.setTop (mkF m 28 #[.val (.int i0), .val (.int (i1 + (-16 : Int32)))] [])) _
  refine XS.iloadN X0.here hx rfl (hb hby d5_28) rfl ?_
  show Steps p.tables e below (T0.setTop (mkF m 29 #[.val (.int i0), .val (.int (i1 + (-16 : Int32)))] [(.int i0)])) _
  refine XS.bipush X0.here hx rfl (hb hby d5_29) ?_
  show Steps p.tables e below (T0.setTop (mkF m 31 #[.val (.int i0), .val (.int (i1 + (-16 : Int32)))] [(.int (16 : Int32)), (.int i0)])) _
  refine XS.iushr X0.here hx rfl (hb hby d5_31) rfl ?_
  show Steps p.tables e below (T0.setTop (mkF m 32 #[.val (.int i0), .val (.int (i1 + (-16 : Int32)))] [(.int ((i0.toUInt32 >>> ((16 : Int32) &&& 31).toUInt32).toInt32))])) _
  refine XS.istoreN X0.here hx rfl (hb hby d5_32) rfl (l' := #[.val (.int ((i0.toUInt32 >>> ((16 : Int32) &&& 31).toUInt32).toInt32)), .val (.int (i1 + (-16 : Int32)))]) rfl ?_
  exact kt

theorem own_g18 {p : Program} {l : Launch} {e : Env} {R : Room} {s : State} {m : MethodId} {args : Array Value} {below : List Frame} {meth : Method} {c : Code} {T0 : State} {locs : List Loc} {cells slots : Nat} {Z : State} {a0 : Array Value} {h0 : Heap} (X N : Nat) (hX : X < 2147483648) (hN : 16 ≤ N) (hN2 : N < 2147483648) (X0 : Stand p l e R s m args below meth c T0 locs cells slots) (hx : p.tables.exec = Jvm.exec) (hZ : Z.Warmed39 s.vm) (hw : ∀ d ∈ tables_1, d.before a0 Z = true) (hby : c.code = jdk_33_method_47_code) (hml : c.maxLocals = 2) (hown : s.vm.findClass "java/lang/Integer" = some m.cls) (e0 : T0.heap = h0) :
    ∃ (T' : State), Stand p l e R s m args below meth c T' locs cells slots ∧ T'.heap = h0 ∧ ∀ target, Steps p.tables e below (T'.setTop (mkF m 33 #[.val (.int (Int32.ofNat (own_s 65536 16 (X, N)).1)), .val (.int (Int32.ofNat (own_s 65536 16 (X, N)).2))] [])) target → Steps p.tables e below (T0.setTop (mkF m 18 #[.val (.int (Int32.ofNat X)), .val (.int (Int32.ofNat N))] [])) target := by
  by_cases q : X < 65536
  · rw [show own_s 65536 16 (X, N) = (X, N) from if_pos q]
    exact tk5_18 (Int32.ofNat X) (.val (.int (Int32.ofNat N))) X0 hx hZ hw hby hml hown e0 ((own_ltn hX (by decide)).mpr q)
  · rw [show own_s 65536 16 (X, N) = (X / 2 ^ 16, N - 16) from if_neg q]
    have r := tf5_18 (Int32.ofNat X) (Int32.ofNat N) X0 hx hZ hw hby hml hown e0 (fun z => q ((own_ltn hX (by decide)).mp z))
    rw [own_ush (s := 16) hX 16 (by decide) (by decide), own_subk (-16) (by decide) hN hN2] at r
    exact r
theorem d5_33 : decode jdk_33_method_47_code 33 = .ok (.iload_n 0, 1) := by decide +kernel
theorem d5_34 : decode jdk_33_method_47_code 34 = .ok (.sipush 256, 3) := by decide +kernel
theorem d5_37 : decode jdk_33_method_47_code 37 = .ok (.if_icmp .lt 11, 3) := by decide +kernel
set_option maxRecDepth 65536 in
set_option maxHeartbeats 40000000 in
theorem tk5_33 {p : Program} {l : Launch} {e : Env} {R : Room} {s : State} {m : MethodId} {args : Array Value} {below : List Frame} {meth : Method} {c : Code} {T0 : State} {locs : List Loc} {cells slots : Nat} {Z : State} {a0 : Array Value} {h0 : Heap} (i0 : Int32) (s1 : Slot)
    (X0 : Stand p l e R s m args below meth c T0 locs cells slots) (hx : p.tables.exec = Jvm.exec) (hZ : Z.Warmed39 s.vm) (hw : ∀ d ∈ tables_1, d.before a0 Z = true) (hby : c.code = jdk_33_method_47_code) (hml : c.maxLocals = 2) (hown : s.vm.findClass "java/lang/Integer" = some m.cls) (e0 : T0.heap = h0) (hc37 : i0 < (256 : Int32)) :
    ∃ (T' : State), Stand p l e R s m args below meth c T' locs cells slots ∧ T'.heap = h0 ∧
      ∀ target, Steps p.tables e below (T'.setTop (mkF m 48 #[.val (.int i0), s1] [])) target → Steps p.tables e below (T0.setTop (mkF m 33 #[.val (.int i0), s1] [])) target := by

  refine ⟨T0, X0, e0, fun target kt => ?_⟩
  show Steps p.tables e below (T0.setTop (mkF m 33 #[.val (.int i0), s1] [])) _
  refine XS.iloadN X0.here hx rfl (hb hby d5_33) rfl ?_
  show Steps p.tables e below (T0.setTop (mkF m 34 #[.val (.int i0), s1] [(.int i0)])) _
  refine XS.sipush X0.here hx rfl (hb hby d5_34) ?_
  show Steps p.tables e below (T0.setTop (mkF m 37 #[.val (.int i0), s1] [(.int (256 : Int32)), (.int i0)])) _
  refine XS.icmpYes X0.here hx rfl (pc0 := 37) (pc' := 48) rfl (hb hby d5_37) rfl (tlt hc37).1 (by decide) (by decide) ?_
  exact kt
theorem d5_40 : decode jdk_33_method_47_code 40 = .ok (.iinc 1 (-8), 3) := by decide +kernel
theorem d5_43 : decode jdk_33_method_47_code 43 = .ok (.iload_n 0, 1) := by decide +kernel
theorem d5_44 : decode jdk_33_method_47_code 44 = .ok (.bipush 8, 2) := by decide +kernel
theorem d5_46 : decode jdk_33_method_47_code 46 = .ok (.iushr, 1) := by decide +kernel
theorem d5_47 : decode jdk_33_method_47_code 47 = .ok (.istore_n 0, 1) := by decide +kernel
set_option maxRecDepth 65536 in
set_option maxHeartbeats 40000000 in
theorem tf5_33 {p : Program} {l : Launch} {e : Env} {R : Room} {s : State} {m : MethodId} {args : Array Value} {below : List Frame} {meth : Method} {c : Code} {T0 : State} {locs : List Loc} {cells slots : Nat} {Z : State} {a0 : Array Value} {h0 : Heap} (i0 : Int32) (i1 : Int32)
    (X0 : Stand p l e R s m args below meth c T0 locs cells slots) (hx : p.tables.exec = Jvm.exec) (hZ : Z.Warmed39 s.vm) (hw : ∀ d ∈ tables_1, d.before a0 Z = true) (hby : c.code = jdk_33_method_47_code) (hml : c.maxLocals = 2) (hown : s.vm.findClass "java/lang/Integer" = some m.cls) (e0 : T0.heap = h0) (hc37 : ¬ (i0 < (256 : Int32))) :
    ∃ (T' : State), Stand p l e R s m args below meth c T' locs cells slots ∧ T'.heap = h0 ∧
      ∀ target, Steps p.tables e below (T'.setTop (mkF m 48 #[.val (.int ((i0.toUInt32 >>> ((8 : Int32) &&& 31).toUInt32).toInt32)), .val (.int (i1 + (-8 : Int32)))] [])) target → Steps p.tables e below (T0.setTop (mkF m 33 #[.val (.int i0), .val (.int i1)] [])) target := by

  refine ⟨T0, X0, e0, fun target kt => ?_⟩
  show Steps p.tables e below (T0.setTop (mkF m 33 #[.val (.int i0), .val (.int i1)] [])) _
  refine XS.iloadN X0.here hx rfl (hb hby d5_33) rfl ?_
  show Steps p.tables e below (T0.setTop (mkF m 34 #[.val (.int i0), .val (.int i1)] [(.int i0)])) _
  refine XS.sipush X0.here hx rfl (hb hby d5_34) ?_
  show Steps p.tables e below (T0.setTop (mkF m 37 #[.val (.int i0), .val (.int i1)] [(.int (256 : Int32)), (.int i0)])) _
  refine XS.icmpNo X0.here hx rfl (hb hby d5_37) rfl (flt hc37).1 ?_
  show Steps p.tables e below (T0.setTop (mkF m 40 #[.val (.int i0), .val (.int i1)] [])) _
  refine XS.iinc X0.here hx rfl (hb hby d5_40) rfl (l' := #[.val (.int i0), .val (.int (i1 + (-8 : Int32)))]) rfl ?_
  show Steps p.tables e below (T0.setTop (mkF m 43 #[.val (.int i0), .val (.int (i1 + (-8 : Int32)))] [])) _
  refine XS.iloadN X0.here hx rfl (hb hby d5_43) rfl ?_
  show Steps p.tables e below (T0.setTop (mkF m 44 #[.val (.int i0), .val (.int (i1 + (-8 : Int32)))] [(.int i0)])) _
  refine XS.bipush X0.here hx rfl (hb hby d5_44) ?_
  show Steps p.tables e below (T0.setTop (mkF m 46 #[.val (.int i0), .val (.int (i1 + (-8 : Int32)))] [(.int (8 : Int32)), (.int i0)])) _
  refine XS.iushr X0.here hx rfl (hb hby d5_46) rfl ?_
  show Steps p.tables e below (T0.setTop (mkF m 47 #[.val (.int i0), .val (.int (i1 + (-8 : Int32)))] [(.int ((i0.toUInt32 >>> ((8 : Int32) &&& 31).toUInt32).toInt32))])) _
  refine XS.istoreN X0.here hx rfl (hb hby d5_47) rfl (l' := #[.val (.int ((i0.toUInt32 >>> ((8 : Int32) &&& 31).toUInt32).toInt32)), .val (.int (i1 + (-8 : Int32)))]) rfl ?_
  exact kt

theorem own_g33 {p : Program} {l : Launch} {e : Env} {R : Room} {s : State} {m : MethodId} {args : Array Value} {below : List Frame} {meth : Method} {c : Code} {T0 : State} {locs : List Loc} {cells slots : Nat} {Z : State} {a0 : Array Value} {h0 : Heap} (X N : Nat) (hX : X < 2147483648) (hN : 8 ≤ N) (hN2 : N < 2147483648) (X0 : Stand p l e R s m args below meth c T0 locs cells slots) (hx : p.tables.exec = Jvm.exec) (hZ : Z.Warmed39 s.vm) (hw : ∀ d ∈ tables_1, d.before a0 Z = true) (hby : c.code = jdk_33_method_47_code) (hml : c.maxLocals = 2) (hown : s.vm.findClass "java/lang/Integer" = some m.cls) (e0 : T0.heap = h0) :
    ∃ (T' : State), Stand p l e R s m args below meth c T' locs cells slots ∧ T'.heap = h0 ∧ ∀ target, Steps p.tables e below (T'.setTop (mkF m 48 #[.val (.int (Int32.ofNat (own_s 256 8 (X, N)).1)), .val (.int (Int32.ofNat (own_s 256 8 (X, N)).2))] [])) target → Steps p.tables e below (T0.setTop (mkF m 33 #[.val (.int (Int32.ofNat X)), .val (.int (Int32.ofNat N))] [])) target := by
  by_cases q : X < 256
  · rw [show own_s 256 8 (X, N) = (X, N) from if_pos q]
    exact tk5_33 (Int32.ofNat X) (.val (.int (Int32.ofNat N))) X0 hx hZ hw hby hml hown e0 ((own_ltn hX (by decide)).mpr q)
  · rw [show own_s 256 8 (X, N) = (X / 2 ^ 8, N - 8) from if_neg q]
    have r := tf5_33 (Int32.ofNat X) (Int32.ofNat N) X0 hx hZ hw hby hml hown e0 (fun z => q ((own_ltn hX (by decide)).mp z))
    rw [own_ush (s := 8) hX 8 (by decide) (by decide), own_subk (-8) (by decide) hN hN2] at r
    exact r
theorem d5_48 : decode jdk_33_method_47_code 48 = .ok (.iload_n 0, 1) := by decide +kernel
theorem d5_49 : decode jdk_33_method_47_code 49 = .ok (.bipush 16, 2) := by decide +kernel
theorem d5_51 : decode jdk_33_method_47_code 51 = .ok (.if_icmp .lt 10, 3) := by decide +kernel
set_option maxRecDepth 65536 in
set_option maxHeartbeats 40000000 in
theorem tk5_48 {p : Program} {l : Launch} {e : Env} {R : Room} {s : State} {m : MethodId} {args : Array Value} {below : List Frame} {meth : Method} {c : Code} {T0 : State} {locs : List Loc} {cells slots : Nat} {Z : State} {a0 : Array Value} {h0 : Heap} (i0 : Int32) (s1 : Slot)
    (X0 : Stand p l e R s m args below meth c T0 locs cells slots) (hx : p.tables.exec = Jvm.exec) (hZ : Z.Warmed39 s.vm) (hw : ∀ d ∈ tables_1, d.before a0 Z = true) (hby : c.code = jdk_33_method_47_code) (hml : c.maxLocals = 2) (hown : s.vm.findClass "java/lang/Integer" = some m.cls) (e0 : T0.heap = h0) (hc51 : i0 < (16 : Int32)) :
    ∃ (T' : State), Stand p l e R s m args below meth c T' locs cells slots ∧ T'.heap = h0 ∧
      ∀ target, Steps p.tables e below (T'.setTop (mkF m 61 #[.val (.int i0), s1] [])) target → Steps p.tables e below (T0.setTop (mkF m 48 #[.val (.int i0), s1] [])) target := by

  refine ⟨T0, X0, e0, fun target kt => ?_⟩
  show Steps p.tables e below (T0.setTop (mkF m 48 #[.val (.int i0), s1] [])) _
  refine XS.iloadN X0.here hx rfl (hb hby d5_48) rfl ?_
  show Steps p.tables e below (T0.setTop (mkF m 49 #[.val (.int i0), s1] [(.int i0)])) _
  refine XS.bipush X0.here hx rfl (hb hby d5_49) ?_
  show Steps p.tables e below (T0.setTop (mkF m 51 #[.val (.int i0), s1] [(.int (16 : Int32)), (.int i0)])) _
  refine XS.icmpYes X0.here hx rfl (pc0 := 51) (pc' := 61) rfl (hb hby d5_51) rfl (tlt hc51).1 (by decide) (by decide) ?_
  exact kt
theorem d5_54 : decode jdk_33_method_47_code 54 = .ok (.iinc 1 (-4), 3) := by decide +kernel
theorem d5_57 : decode jdk_33_method_47_code 57 = .ok (.iload_n 0, 1) := by decide +kernel
theorem d5_58 : decode jdk_33_method_47_code 58 = .ok (.iconst 4, 1) := by decide +kernel
theorem d5_59 : decode jdk_33_method_47_code 59 = .ok (.iushr, 1) := by decide +kernel
theorem d5_60 : decode jdk_33_method_47_code 60 = .ok (.istore_n 0, 1) := by decide +kernel
set_option maxRecDepth 65536 in
set_option maxHeartbeats 40000000 in
theorem tf5_48 {p : Program} {l : Launch} {e : Env} {R : Room} {s : State} {m : MethodId} {args : Array Value} {below : List Frame} {meth : Method} {c : Code} {T0 : State} {locs : List Loc} {cells slots : Nat} {Z : State} {a0 : Array Value} {h0 : Heap} (i0 : Int32) (i1 : Int32)
    (X0 : Stand p l e R s m args below meth c T0 locs cells slots) (hx : p.tables.exec = Jvm.exec) (hZ : Z.Warmed39 s.vm) (hw : ∀ d ∈ tables_1, d.before a0 Z = true) (hby : c.code = jdk_33_method_47_code) (hml : c.maxLocals = 2) (hown : s.vm.findClass "java/lang/Integer" = some m.cls) (e0 : T0.heap = h0) (hc51 : ¬ (i0 < (16 : Int32))) :
    ∃ (T' : State), Stand p l e R s m args below meth c T' locs cells slots ∧ T'.heap = h0 ∧
      ∀ target, Steps p.tables e below (T'.setTop (mkF m 61 #[.val (.int ((i0.toUInt32 >>> ((4 : Int32) &&& 31).toUInt32).toInt32)), .val (.int (i1 + (-4 : Int32)))] [])) target → Steps p.tables e below (T0.setTop (mkF m 48 #[.val (.int i0), .val (.int i1)] [])) target := by

  refine ⟨T0, X0, e0, fun target kt => ?_⟩
  show Steps p.tables e below (T0.setTop (mkF m 48 #[.val (.int i0), .val (.int i1)] [])) _
  refine XS.iloadN X0.here hx rfl (hb hby d5_48) rfl ?_
  show Steps p.tables e below (T0.setTop (mkF m 49 #[.val (.int i0), .val (.int i1)] [(.int i0)])) _
  refine XS.bipush X0.here hx rfl (hb hby d5_49) ?_
  show Steps p.tables e below (T0.setTop (mkF m 51 #[.val (.int i0), .val (.int i1)] [(.int (16 : Int32)), (.int i0)])) _
  refine XS.icmpNo X0.here hx rfl (hb hby d5_51) rfl (flt hc51).1 ?_
  show Steps p.tables e below (T0.setTop (mkF m 54 #[.val (.int i0), .val (.int i1)] [])) _
  refine XS.iinc X0.here hx rfl (hb hby d5_54) rfl (l' := #[.val (.int i0), .val (.int (i1 + (-4 : Int32)))]) rfl ?_
  show Steps p.tables e below (T0.setTop (mkF m 57 #[.val (.int i0), .val (.int (i1 + (-4 : Int32)))] [])) _
  refine XS.iloadN X0.here hx rfl (hb hby d5_57) rfl ?_
  show Steps p.tables e below (T0.setTop (mkF m 58 #[.val (.int i0), .val (.int (i1 + (-4 : Int32)))] [(.int i0)])) _
  refine XS.iconst X0.here hx rfl (hb hby d5_58) ?_
  show Steps p.tables e below (T0.setTop (mkF m 59 #[.val (.int i0), .val (.int (i1 + (-4 : Int32)))] [(.int (4 : Int32)), (.int i0)])) _
  refine XS.iushr X0.here hx rfl (hb hby d5_59) rfl ?_
  show Steps p.tables e below (T0.setTop (mkF m 60 #[.val (.int i0), .val (.int (i1 + (-4 : Int32)))] [(.int ((i0.toUInt32 >>> ((4 : Int32) &&& 31).toUInt32).toInt32))])) _
  refine XS.istoreN X0.here hx rfl (hb hby d5_60) rfl (l' := #[.val (.int ((i0.toUInt32 >>> ((4 : Int32) &&& 31).toUInt32).toInt32)), .val (.int (i1 + (-4 : Int32)))]) rfl ?_
  exact kt

theorem own_g48 {p : Program} {l : Launch} {e : Env} {R : Room} {s : State} {m : MethodId} {args : Array Value} {below : List Frame} {meth : Method} {c : Code} {T0 : State} {locs : List Loc} {cells slots : Nat} {Z : State} {a0 : Array Value} {h0 : Heap} (X N : Nat) (hX : X < 2147483648) (hN : 4 ≤ N) (hN2 : N < 2147483648) (X0 : Stand p l e R s m args below meth c T0 locs cells slots) (hx : p.tables.exec = Jvm.exec) (hZ : Z.Warmed39 s.vm) (hw : ∀ d ∈ tables_1, d.before a0 Z = true) (hby : c.code = jdk_33_method_47_code) (hml : c.maxLocals = 2) (hown : s.vm.findClass "java/lang/Integer" = some m.cls) (e0 : T0.heap = h0) :
    ∃ (T' : State), Stand p l e R s m args below meth c T' locs cells slots ∧ T'.heap = h0 ∧ ∀ target, Steps p.tables e below (T'.setTop (mkF m 61 #[.val (.int (Int32.ofNat (own_s 16 4 (X, N)).1)), .val (.int (Int32.ofNat (own_s 16 4 (X, N)).2))] [])) target → Steps p.tables e below (T0.setTop (mkF m 48 #[.val (.int (Int32.ofNat X)), .val (.int (Int32.ofNat N))] [])) target := by
  by_cases q : X < 16
  · rw [show own_s 16 4 (X, N) = (X, N) from if_pos q]
    exact tk5_48 (Int32.ofNat X) (.val (.int (Int32.ofNat N))) X0 hx hZ hw hby hml hown e0 ((own_ltn hX (by decide)).mpr q)
  · rw [show own_s 16 4 (X, N) = (X / 2 ^ 4, N - 4) from if_neg q]
    have r := tf5_48 (Int32.ofNat X) (Int32.ofNat N) X0 hx hZ hw hby hml hown e0 (fun z => q ((own_ltn hX (by decide)).mp z))
    rw [own_ush (s := 4) hX 4 (by decide) (by decide), own_subk (-4) (by decide) hN hN2] at r
    exact r
theorem d5_61 : decode jdk_33_method_47_code 61 = .ok (.iload_n 0, 1) := by decide +kernel
theorem d5_62 : decode jdk_33_method_47_code 62 = .ok (.iconst 4, 1) := by decide +kernel
theorem d5_63 : decode jdk_33_method_47_code 63 = .ok (.if_icmp .lt 10, 3) := by decide +kernel
set_option maxRecDepth 65536 in
set_option maxHeartbeats 40000000 in
theorem tk5_61 {p : Program} {l : Launch} {e : Env} {R : Room} {s : State} {m : MethodId} {args : Array Value} {below : List Frame} {meth : Method} {c : Code} {T0 : State} {locs : List Loc} {cells slots : Nat} {Z : State} {a0 : Array Value} {h0 : Heap} (i0 : Int32) (s1 : Slot)
    (X0 : Stand p l e R s m args below meth c T0 locs cells slots) (hx : p.tables.exec = Jvm.exec) (hZ : Z.Warmed39 s.vm) (hw : ∀ d ∈ tables_1, d.before a0 Z = true) (hby : c.code = jdk_33_method_47_code) (hml : c.maxLocals = 2) (hown : s.vm.findClass "java/lang/Integer" = some m.cls) (e0 : T0.heap = h0) (hc63 : i0 < (4 : Int32)) :
    ∃ (T' : State), Stand p l e R s m args below meth c T' locs cells slots ∧ T'.heap = h0 ∧
      ∀ target, Steps p.tables e below (T'.setTop (mkF m 73 #[.val (.int i0), s1] [])) target → Steps p.tables e below (T0.setTop (mkF m 61 #[.val (.int i0), s1] [])) target := by

  refine ⟨T0, X0, e0, fun target kt => ?_⟩
  show Steps p.tables e below (T0.setTop (mkF m 61 #[.val (.int i0), s1] [])) _
  refine XS.iloadN X0.here hx rfl (hb hby d5_61) rfl ?_
  show Steps p.tables e below (T0.setTop (mkF m 62 #[.val (.int i0), s1] [(.int i0)])) _
  refine XS.iconst X0.here hx rfl (hb hby d5_62) ?_
  show Steps p.tables e below (T0.setTop (mkF m 63 #[.val (.int i0), s1] [(.int (4 : Int32)), (.int i0)])) _
  refine XS.icmpYes X0.here hx rfl (pc0 := 63) (pc' := 73) rfl (hb hby d5_63) rfl (tlt hc63).1 (by decide) (by decide) ?_
  exact kt
theorem d5_66 : decode jdk_33_method_47_code 66 = .ok (.iinc 1 (-2), 3) := by decide +kernel
theorem d5_69 : decode jdk_33_method_47_code 69 = .ok (.iload_n 0, 1) := by decide +kernel
theorem d5_70 : decode jdk_33_method_47_code 70 = .ok (.iconst 2, 1) := by decide +kernel
theorem d5_71 : decode jdk_33_method_47_code 71 = .ok (.iushr, 1) := by decide +kernel
theorem d5_72 : decode jdk_33_method_47_code 72 = .ok (.istore_n 0, 1) := by decide +kernel
set_option maxRecDepth 65536 in
set_option maxHeartbeats 40000000 in
theorem tf5_61 {p : Program} {l : Launch} {e : Env} {R : Room} {s : State} {m : MethodId} {args : Array Value} {below : List Frame} {meth : Method} {c : Code} {T0 : State} {locs : List Loc} {cells slots : Nat} {Z : State} {a0 : Array Value} {h0 : Heap} (i0 : Int32) (i1 : Int32)
    (X0 : Stand p l e R s m args below meth c T0 locs cells slots) (hx : p.tables.exec = Jvm.exec) (hZ : Z.Warmed39 s.vm) (hw : ∀ d ∈ tables_1, d.before a0 Z = true) (hby : c.code = jdk_33_method_47_code) (hml : c.maxLocals = 2) (hown : s.vm.findClass "java/lang/Integer" = some m.cls) (e0 : T0.heap = h0) (hc63 : ¬ (i0 < (4 : Int32))) :
    ∃ (T' : State), Stand p l e R s m args below meth c T' locs cells slots ∧ T'.heap = h0 ∧
      ∀ target, Steps p.tables e below (T'.setTop (mkF m 73 #[.val (.int ((i0.toUInt32 >>> ((2 : Int32) &&& 31).toUInt32).toInt32)), .val (.int (i1 + (-2 : Int32)))] [])) target → Steps p.tables e below (T0.setTop (mkF m 61 #[.val (.int i0), .val (.int i1)] [])) target := by

  refine ⟨T0, X0, e0, fun target kt => ?_⟩
  show Steps p.tables e below (T0.setTop (mkF m 61 #[.val (.int i0), .val (.int i1)] [])) _
  refine XS.iloadN X0.here hx rfl (hb hby d5_61) rfl ?_
  show Steps p.tables e below (T0.setTop (mkF m 62 #[.val (.int i0), .val (.int i1)] [(.int i0)])) _
  refine XS.iconst X0.here hx rfl (hb hby d5_62) ?_
  show Steps p.tables e below (T0.setTop (mkF m 63 #[.val (.int i0), .val (.int i1)] [(.int (4 : Int32)), (.int i0)])) _
  refine XS.icmpNo X0.here hx rfl (hb hby d5_63) rfl (flt hc63).1 ?_
  show Steps p.tables e below (T0.setTop (mkF m 66 #[.val (.int i0), .val (.int i1)] [])) _
  refine XS.iinc X0.here hx rfl (hb hby d5_66) rfl (l' := #[.val (.int i0), .val (.int (i1 + (-2 : Int32)))]) rfl ?_
  show Steps p.tables e below (T0.setTop (mkF m 69 #[.val (.int i0), .val (.int (i1 + (-2 : Int32)))] [])) _
  refine XS.iloadN X0.here hx rfl (hb hby d5_69) rfl ?_
  show Steps p.tables e below (T0.setTop (mkF m 70 #[.val (.int i0), .val (.int (i1 + (-2 : Int32)))] [(.int i0)])) _
  refine XS.iconst X0.here hx rfl (hb hby d5_70) ?_
  show Steps p.tables e below (T0.setTop (mkF m 71 #[.val (.int i0), .val (.int (i1 + (-2 : Int32)))] [(.int (2 : Int32)), (.int i0)])) _
  refine XS.iushr X0.here hx rfl (hb hby d5_71) rfl ?_
  show Steps p.tables e below (T0.setTop (mkF m 72 #[.val (.int i0), .val (.int (i1 + (-2 : Int32)))] [(.int ((i0.toUInt32 >>> ((2 : Int32) &&& 31).toUInt32).toInt32))])) _
  refine XS.istoreN X0.here hx rfl (hb hby d5_72) rfl (l' := #[.val (.int ((i0.toUInt32 >>> ((2 : Int32) &&& 31).toUInt32).toInt32)), .val (.int (i1 + (-2 : Int32)))]) rfl ?_
  exact kt

theorem own_g61 {p : Program} {l : Launch} {e : Env} {R : Room} {s : State} {m : MethodId} {args : Array Value} {below : List Frame} {meth : Method} {c : Code} {T0 : State} {locs : List Loc} {cells slots : Nat} {Z : State} {a0 : Array Value} {h0 : Heap} (X N : Nat) (hX : X < 2147483648) (hN : 2 ≤ N) (hN2 : N < 2147483648) (X0 : Stand p l e R s m args below meth c T0 locs cells slots) (hx : p.tables.exec = Jvm.exec) (hZ : Z.Warmed39 s.vm) (hw : ∀ d ∈ tables_1, d.before a0 Z = true) (hby : c.code = jdk_33_method_47_code) (hml : c.maxLocals = 2) (hown : s.vm.findClass "java/lang/Integer" = some m.cls) (e0 : T0.heap = h0) :
    ∃ (T' : State), Stand p l e R s m args below meth c T' locs cells slots ∧ T'.heap = h0 ∧ ∀ target, Steps p.tables e below (T'.setTop (mkF m 73 #[.val (.int (Int32.ofNat (own_s 4 2 (X, N)).1)), .val (.int (Int32.ofNat (own_s 4 2 (X, N)).2))] [])) target → Steps p.tables e below (T0.setTop (mkF m 61 #[.val (.int (Int32.ofNat X)), .val (.int (Int32.ofNat N))] [])) target := by
  by_cases q : X < 4
  · rw [show own_s 4 2 (X, N) = (X, N) from if_pos q]
    exact tk5_61 (Int32.ofNat X) (.val (.int (Int32.ofNat N))) X0 hx hZ hw hby hml hown e0 ((own_ltn hX (by decide)).mpr q)
  · rw [show own_s 4 2 (X, N) = (X / 2 ^ 2, N - 2) from if_neg q]
    have r := tf5_61 (Int32.ofNat X) (Int32.ofNat N) X0 hx hZ hw hby hml hown e0 (fun z => q ((own_ltn hX (by decide)).mp z))
    rw [own_ush (s := 2) hX 2 (by decide) (by decide), own_subk (-2) (by decide) hN hN2] at r
    exact r
theorem d5_73 : decode jdk_33_method_47_code 73 = .ok (.iload_n 1, 1) := by decide +kernel
theorem d5_74 : decode jdk_33_method_47_code 74 = .ok (.iload_n 0, 1) := by decide +kernel
theorem d5_75 : decode jdk_33_method_47_code 75 = .ok (.iconst 1, 1) := by decide +kernel
theorem d5_76 : decode jdk_33_method_47_code 76 = .ok (.iushr, 1) := by decide +kernel
theorem d5_77 : decode jdk_33_method_47_code 77 = .ok (.isub, 1) := by decide +kernel
set_option maxRecDepth 65536 in
set_option maxHeartbeats 40000000 in
theorem tn5_73_78 {p : Program} {l : Launch} {e : Env} {R : Room} {s : State} {m : MethodId} {args : Array Value} {below : List Frame} {meth : Method} {c : Code} {T0 : State} {locs : List Loc} {cells slots : Nat} {Z : State} {a0 : Array Value} {h0 : Heap} (i0 : Int32) (i1 : Int32)
    (X0 : Stand p l e R s m args below meth c T0 locs cells slots) (hx : p.tables.exec = Jvm.exec) (hZ : Z.Warmed39 s.vm) (hw : ∀ d ∈ tables_1, d.before a0 Z = true) (hby : c.code = jdk_33_method_47_code) (hml : c.maxLocals = 2) (hown : s.vm.findClass "java/lang/Integer" = some m.cls) (e0 : T0.heap = h0) :
    ∃ (T' : State), Stand p l e R s m args below meth c T' locs cells slots ∧ T'.heap = h0 ∧
      ∀ target, Steps p.tables e below (T'.setTop (mkF m 78 #[.val (.int i0), .val (.int i1)] [(.int (i1 - ((i0.toUInt32 >>> ((1 : Int32) &&& 31).toUInt32).toInt32)))])) target → Steps p.tables e below (T0.setTop (mkF m 73 #[.val (.int i0), .val (.int i1)] [])) target := by

  refine ⟨T0, X0, e0, fun target kt => ?_⟩
  show Steps p.tables e below (T0.setTop (mkF m 73 #[.val (.int i0), .val (.int i1)] [])) _
  refine XS.iloadN X0.here hx rfl (hb hby d5_73) rfl ?_
  show Steps p.tables e below (T0.setTop (mkF m 74 #[.val (.int i0), .val (.int i1)] [(.int i1)])) _
  refine XS.iloadN X0.here hx rfl (hb hby d5_74) rfl ?_
  show Steps p.tables e below (T0.setTop (mkF m 75 #[.val (.int i0), .val (.int i1)] [(.int i0), (.int i1)])) _
  refine XS.iconst X0.here hx rfl (hb hby d5_75) ?_
  show Steps p.tables e below (T0.setTop (mkF m 76 #[.val (.int i0), .val (.int i1)] [(.int (1 : Int32)), (.int i0), (.int i1)])) _
  refine XS.iushr X0.here hx rfl (hb hby d5_76) rfl ?_
  show Steps p.tables e below (T0.setTop (mkF m 77 #[.val (.int i0), .val (.int i1)] [(.int ((i0.toUInt32 >>> ((1 : Int32) &&& 31).toUInt32).toInt32)), (.int i1)])) _
  refine XS.isub X0.here hx rfl (hb hby d5_77) rfl ?_
  exact kt
theorem d5_4 : decode jdk_33_method_47_code 4 = .ok (.iload_n 0, 1) := by decide +kernel
theorem d5_5 : decode jdk_33_method_47_code 5 = .ok (.ifCond .ne 8, 3) := by decide +kernel
theorem d5_8 : decode jdk_33_method_47_code 8 = .ok (.bipush 32, 2) := by decide +kernel
theorem d5_10 : decode jdk_33_method_47_code 10 = .ok (.goto 4, 3) := by decide +kernel
theorem d5_14 : decode jdk_33_method_47_code 14 = .ok (.ireturn, 1) := by decide +kernel
theorem pn_5 : plainName "java/lang/Integer" = true := by first | (simp [plainName, overriddenIn]; done) | decide +kernel
theorem ef_5 (m : MethodId) (x0 : Int32) : entryFrame m #[(.int x0)] 2 = mkF m 0 #[.val (.int x0), .unset] [] := by first | (simp [entryFrame, mkF, argsToLocals, Value.category]; done) | rfl
def Q5z (Z : State) (p1 : Int32) (h0 : Heap) (n0 : Nat) (v : Option Value) (h : Heap) (L : List Loc) : Prop := v = some (.int (32 : Int32)) ∧ Fr n0 L ∧ h = h0
set_option maxRecDepth 65536 in
set_option maxHeartbeats 40000000 in
theorem rm5z (l : Launch) (Z : State) (a0 : Array Value) (hw : ∀ d ∈ tables_1, d.before a0 Z = true) (ws : List Jvm.Cond) (p1 : Int32) (h0 : Heap) (n0 : Nat) (Z0 : n0 ≤ h0.size) (hc1 : ¬ ((0 : Int32) < p1)) (hc5 : p1 = (0 : Int32)) :
    MetFree l (⟨"java/lang/Integer", "numberOfLeadingZeros", "(I)I"⟩ : MethodName) (head1 (Jvm.Cond.code (⟨"java/lang/Integer", "numberOfLeadingZeros", "(I)I"⟩ : MethodName) jdk_33_method_47_code 2 (some .int) :: ws) ({ frames := 0, cells := 0, slots := 0, locals := 0 } : Room)) (fun a U => a = #[(.int p1)] ∧ Z.Warmed39 U.vm ∧ U.heap = h0) (fun _ _ _ _ _ => True) (fun _ U o U' => ∃ v L, o = .returned v ∧ Q5z Z p1 h0 n0 v U'.heap L ∧ FrameEnd U o U' L ({ frames := 0, cells := 0, slots := 0, locals := 0 } : Room).cells ({ frames := 0, cells := 0, slots := 0, locals := 0 } : Room).slots) := by
  refine MetFree.of_bodySF (plainFor_of_name pn_5) hisR ?_
  intro p e s m args below meth c s₁ Bd hml0 hP hK
  obtain ⟨rfl, hZ, hh⟩ := hP
  have hx := Bd.exec
  have hby := Bd.bytes
  have hml : c.maxLocals = 2 := hml0
  have hown : s.vm.findClass "java/lang/Integer" = some m.cls := findClass_of_methodNamed Bd.named
  have hnm := (name_of_methodNamed Bd.named Bd.method).1
  have X0 : Stand p l e ({ frames := 0, cells := 0, slots := 0, locals := 0 } : Room) s m #[(.int p1)] below meth c s₁ [] 0 0 := Stand.of_body Bd
  have e0 : s₁.heap = h0 := by rw [← hh, Bd.state]; rfl
  have N0 := Fr.nil n0
  have pre0 : ∀ t, Steps p.tables e below (s₁.setTop (mkF m 0 #[.val (.int p1), .unset] [])) t → Steps p.tables e below (s₁.setTop (entryFrame m #[(.int p1)] 2)) t := fun t k => castTop (ef_5 m p1) k

  obtain ⟨fs, hr, hrun, hended, hW, hsame⟩ := X0.leave (v := some (.int (32 : Int32))) (fun h => by rw [Bd.returns] at h; cases h)
  refine ⟨_, _, pre0 _ ?_, hrun, hended, _, _, rfl, ?_, ⟨_, rfl⟩, hW, hsame.mono (by decide) (by decide)⟩
  · show Steps p.tables e below (s₁.setTop (mkF m 0 #[.val (.int p1), .unset] [])) _
    refine XS.iloadN X0.here hx rfl (hb hby d5_0) rfl ?_
    show Steps p.tables e below (s₁.setTop (mkF m 1 #[.val (.int p1), .unset] [(.int p1)])) _
    refine XS.ifNo X0.here hx rfl (hb hby d5_1) rfl ((if0 _ _).trans (flt hc1).2.2.1) ?_
    show Steps p.tables e below (s₁.setTop (mkF m 4 #[.val (.int p1), .unset] [])) _
    refine XS.iloadN X0.here hx rfl (hb hby d5_4) rfl ?_
    show Steps p.tables e below (s₁.setTop (mkF m 5 #[.val (.int p1), .unset] [(.int p1)])) _
    refine XS.ifNo X0.here hx rfl (hb hby d5_5) rfl ((if0 _ _).trans (teq hc5).2) ?_
    show Steps p.tables e below (s₁.setTop (mkF m 8 #[.val (.int p1), .unset] [])) _
    refine XS.bipush X0.here hx rfl (hb hby d5_8) ?_
    show Steps p.tables e below (s₁.setTop (mkF m 10 #[.val (.int p1), .unset] [(.int (32 : Int32))])) _
    refine XS.goto X0.here hx rfl (pc0 := 10) (pc' := 14) rfl (hb hby d5_10) (by decide) (by decide) ?_
    show Steps p.tables e below (s₁.setTop (mkF m 14 #[.val (.int p1), .unset] [(.int (32 : Int32))])) _
    exact retI X0 hx Bd.returns (hb hby d5_14) hr
  · show Q5z Z p1 h0 n0 _ s₁.heap _
    rw [e0]
    exact ⟨rfl, N0, rfl⟩
theorem d5_78 : decode jdk_33_method_47_code 78 = .ok (.ireturn, 1) := by decide +kernel

set_option maxRecDepth 65536 in
set_option maxHeartbeats 40000000 in
theorem rm5 (l : Launch) (Z : State) (a0 : Array Value) (hw : ∀ d ∈ tables_1, d.before a0 Z = true) (ws : List Jvm.Cond) (v0 : Nat) (hv : v0 < 2147483648) (h0 : Heap) (n0 : Nat) (Z0 : n0 ≤ h0.size) :
    MetFree l (⟨"java/lang/Integer", "numberOfLeadingZeros", "(I)I"⟩ : MethodName) (head1 (Jvm.Cond.code (⟨"java/lang/Integer", "numberOfLeadingZeros", "(I)I"⟩ : MethodName) jdk_33_method_47_code 2 (some .int) :: ws) ({ frames := 0, cells := 0, slots := 0, locals := 0 } : Room)) (fun a U => a = #[(.int (Int32.ofNat v0))] ∧ Z.Warmed39 U.vm ∧ U.heap = h0) (fun _ _ _ _ _ => True) (fun _ U o U' => ∃ v L, o = .returned v ∧ own_Qr h0 n0 (.int (Int32.ofNat (own_nlz v0))) v U'.heap L ∧ FrameEnd U o U' L ({ frames := 0, cells := 0, slots := 0, locals := 0 } : Room).cells ({ frames := 0, cells := 0, slots := 0, locals := 0 } : Room).slots) := by
  by_cases q0 : v0 = 0
  · subst q0
    exact rm5z l Z a0 hw ws 0 h0 n0 Z0 (by decide) rfl
  · refine MetFree.of_bodySF (plainFor_of_name pn_5) hisR ?_
    intro p e s m args below meth c s₁ Bd hml0 hP hK
    obtain ⟨rfl, hZ, hh⟩ := hP
    have hx := Bd.exec
    have hby := Bd.bytes
    have hml : c.maxLocals = 2 := hml0
    have hown : s.vm.findClass "java/lang/Integer" = some m.cls := findClass_of_methodNamed Bd.named
    have X0 : Stand p l e ({ frames := 0, cells := 0, slots := 0, locals := 0 } : Room) s m #[(.int (Int32.ofNat v0))] below meth c s₁ [] 0 0 := Stand.of_body Bd
    have e0 : s₁.heap = h0 := by rw [← hh, Bd.state]; rfl
    have N0 := Fr.nil n0
    have pre0 : ∀ t, Steps p.tables e below (s₁.setTop (mkF m 0 #[.val (.int (Int32.ofNat v0)), .unset] [])) t → Steps p.tables e below (s₁.setTop (entryFrame m #[(.int (Int32.ofNat v0))] 2)) t := fun t k => castTop (ef_5 m (Int32.ofNat v0)) k
    obtain ⟨a1, a2, a3, b1, b2, b3, c1, c2, c3, d1, d2, d3⟩ := own_y_facts hv
    obtain ⟨T1, X1, e1, st1⟩ := tn5_0_18 (Int32.ofNat v0) X0 hx hZ hw hby hml hown e0 One.u ((own_ltn (i := 0) (by decide) hv).mpr (by omega))
    obtain ⟨T2, X2, e2, st2⟩ := own_g18 v0 31 hv (by decide) (by decide) X1 hx hZ hw hby hml hown e1
    obtain ⟨T3, X3, e3, st3⟩ := own_g33 (own_y1 v0).1 (own_y1 v0).2 (by omega) (by omega) (by omega) X2 hx hZ hw hby hml hown e2
    obtain ⟨T4, X4, e4, st4⟩ := own_g48 (own_y2 v0).1 (own_y2 v0).2 (by omega) (by omega) (by omega) X3 hx hZ hw hby hml hown e3
    obtain ⟨T5, X5, e5, st5⟩ := own_g61 (own_y3 v0).1 (own_y3 v0).2 (by omega) (by omega) (by omega) X4 hx hZ hw hby hml hown e4
    obtain ⟨T6, X6, e6, st6⟩ := tn5_73_78 (Int32.ofNat (own_y4 v0).1) (Int32.ofNat (own_y4 v0).2) X5 hx hZ hw hby hml hown e5
    have ev : Int32.ofNat (own_y4 v0).2 - ((Int32.ofNat (own_y4 v0).1).toUInt32 >>> ((1 : Int32) &&& 31).toUInt32).toInt32 = Int32.ofNat (own_nlz v0) := by
      rw [own_ush (by omega) 1 (s := 1) (by decide) (by decide), own_sb2 (by omega) (by omega)]
      unfold own_nlz; rw [if_neg q0]
    rw [ev] at st6
    obtain ⟨fs, hr, hrun, hended, hW, hsame⟩ := X6.leave (v := some (.int (Int32.ofNat (own_nlz v0)))) (fun h => by rw [Bd.returns] at h; cases h)
    refine ⟨_, _, pre0 _ ?_, hrun, hended, _, _, rfl, ⟨rfl, N0, e6⟩, ⟨_, rfl⟩, hW, hsame.mono (by decide) (by decide)⟩
    exact st1 _ (st2 _ (st3 _ (st4 _ (st5 _ (st6 _ (retI X6 hx Bd.returns (hb hby d5_78) hr))))))

theorem own_i64 {v : Nat} (hv : v < 2147483648) : (Int64.ofNat v).toInt = v := Int64.toInt_ofNat_of_lt (by omega)
theorem own_l2i {v : Nat} (hv : v < 2147483648) : (Int64.ofNat v).toInt32 = Int32.ofNat v := by
  apply Int32.toInt_inj.mp
  rw [Int64.toInt_toInt32, own_i64 hv, own_ti hv, Int.bmod_eq_of_le] <;> omega
theorem own_i2l {v : Nat} (hv : v < 2147483648) : (Int32.ofNat v).toInt64 = Int64.ofNat v := by
  apply Int64.toInt_inj.mp
  rw [Int32.toInt_toInt64, own_i64 hv, own_ti hv]
theorem own_n64 {v : Nat} (hv : v < 18446744073709551616) : own_n (Int64.ofNat v) = v := by
  show (BitVec.ofNat 64 v).toNat = v
  rw [BitVec.toNat_ofNat]; omega
theorem own_hi0 {v : Nat} (hv : v < 2147483648) : ((((Int64.ofNat v).toUInt64 >>> ((32 : Int32) &&& 0x3f).toInt64.toUInt64).toInt64).toInt32) = (0 : Int32) := by
  have e : (((Int64.ofNat v).toUInt64 >>> ((32 : Int32) &&& 0x3f).toInt64.toUInt64).toInt64) = 0 := by
    apply own_n_inj
    show ((Int64.ofNat v).toUInt64 >>> ((32 : Int32) &&& 0x3f).toInt64.toUInt64).toBitVec.toNat = 0
    rw [UInt64.toBitVec_shiftRight, show (((32 : Int32) &&& 0x3f).toInt64.toUInt64.toBitVec % 64) = 32#64 by decide]
    show (BitVec.ofNat 64 v >>> 32#64).toNat = 0
    rw [BitVec.ushiftRight_eq', BitVec.toNat_ushiftRight, BitVec.toNat_ofNat, Nat.shiftRight_eq_div_pow, Nat.mod_eq_of_lt (by omega)]
    exact Nat.div_eq_of_lt (by show v < 2 ^ 32; omega)
  rw [e]; rfl
theorem rm5q (l : Launch) (Z : State) (a0 : Array Value) (hw : ∀ d ∈ tables_1, d.before a0 Z = true) (ws : List Jvm.Cond) (p1 : Int32) (v0 : Nat) (hv : v0 < 2147483648) (hp : p1 = Int32.ofNat v0) (h0 : Heap) (n0 : Nat) (Z0 : n0 ≤ h0.size) :
    MetFree l (⟨"java/lang/Integer", "numberOfLeadingZeros", "(I)I"⟩ : MethodName) (head1 (Jvm.Cond.code (⟨"java/lang/Integer", "numberOfLeadingZeros", "(I)I"⟩ : MethodName) jdk_33_method_47_code 2 (some .int) :: ws) ({ frames := 0, cells := 0, slots := 0, locals := 0 } : Room)) (fun a U => a = #[(.int p1)] ∧ Z.Warmed39 U.vm ∧ U.heap = h0) (fun _ _ _ _ _ => True) (fun _ U o U' => ∃ v L, o = .returned v ∧ own_Qr h0 n0 (.int (Int32.ofNat (own_nlz v0))) v U'.heap L ∧ FrameEnd U o U' L ({ frames := 0, cells := 0, slots := 0, locals := 0 } : Room).cells ({ frames := 0, cells := 0, slots := 0, locals := 0 } : Room).slots) := by
  subst hp; exact rm5 l Z a0 hw ws v0 hv h0 n0 Z0
theorem d4_0 : decode jdk_35_method_48_code 0 = .ok (.lload_n 0, 1) := by decide +kernel
theorem d4_1 : decode jdk_35_method_48_code 1 = .ok (.bipush 32, 2) := by decide +kernel
theorem d4_3 : decode jdk_35_method_48_code 3 = .ok (.lushr, 1) := by decide +kernel
theorem d4_4 : decode jdk_35_method_48_code 4 = .ok (.l2i, 1) := by decide +kernel
theorem d4_5 : decode jdk_35_method_48_code 5 = .ok (.istore_n 2, 1) := by decide +kernel
theorem d4_6 : decode jdk_35_method_48_code 6 = .ok (.iload_n 2, 1) := by decide +kernel
theorem d4_7 : decode jdk_35_method_48_code 7 = .ok (.ifCond .ne 14, 3) := by decide +kernel
theorem d4_10 : decode jdk_35_method_48_code 10 = .ok (.bipush 32, 2) := by decide +kernel
theorem d4_12 : decode jdk_35_method_48_code 12 = .ok (.lload_n 0, 1) := by decide +kernel
theorem d4_13 : decode jdk_35_method_48_code 13 = .ok (.l2i, 1) := by decide +kernel
theorem d4_14 : decode jdk_35_method_48_code 14 = .ok (.invokestatic 308, 3) := by decide +kernel
theorem d4_17 : decode jdk_35_method_48_code 17 = .ok (.iadd, 1) := by decide +kernel
theorem d4_18 : decode jdk_35_method_48_code 18 = .ok (.goto 7, 3) := by decide +kernel
theorem d4_25 : decode jdk_35_method_48_code 25 = .ok (.ireturn, 1) := by decide +kernel
theorem pn_4 : plainName "java/lang/Long" = true := by first | (simp [plainName, overriddenIn]; done) | decide +kernel
theorem pd_4_4 : parseMethodDescriptor "(I)I" = some ⟨[.int], some .int⟩ := by decide +kernel
theorem ef_4 (m : MethodId) (x0 : Int64) : entryFrame m #[(.long x0)] 3 = mkF m 0 #[.val (.long x0), .second, .unset] [] := by first | (simp [entryFrame, mkF, argsToLocals, Value.category]; done) | rfl
def Q4 (h0 : Heap) (n0 : Nat) (v0 : Nat) (v : Option Value) (h : Heap) (L : List Loc) : Prop := own_Qr h0 n0 (.int ((32 : Int32) + Int32.ofNat (own_nlz v0))) v h L
set_option maxRecDepth 65536 in
set_option maxHeartbeats 40000000 in
theorem rm4 (l : Launch) (Z : State) (a0 : Array Value) (hw : ∀ d ∈ tables_1, d.before a0 Z = true) (ws : List Jvm.Cond) (q1 : Int64) (v0 : Nat) (hv : v0 < 2147483648) (hq : q1 = Int64.ofNat v0) (h0 : Heap) (n0 : Nat) (Z0 : n0 ≤ h0.size) :
    MetFree l (⟨"java/lang/Long", "numberOfLeadingZeros", "(J)I"⟩ : MethodName) (head1 (Jvm.Cond.code (⟨"java/lang/Long", "numberOfLeadingZeros", "(J)I"⟩ : MethodName) jdk_35_method_48_code 3 (some .int) :: ws) ({ frames := 1, cells := 0, slots := 0, locals := 14 } : Room)) (fun a U => a = #[(.long q1)] ∧ Z.Warmed39 U.vm ∧ U.heap = h0) (fun _ _ _ _ _ => True) (fun _ U o U' => ∃ v L, o = .returned v ∧ Q4 h0 n0 v0 v U'.heap L ∧ FrameEnd U o U' L ({ frames := 1, cells := 0, slots := 0, locals := 14 } : Room).cells ({ frames := 1, cells := 0, slots := 0, locals := 14 } : Room).slots) := by
  refine MetFree.of_bodySF (plainFor_of_name pn_4) hisR ?_
  intro p e s m args below meth c s₁ Bd hml0 hP hK
  obtain ⟨rfl, hZ, hh⟩ := hP
  have hx := Bd.exec
  have hby := Bd.bytes
  have hml : c.maxLocals = 3 := hml0
  have hown : s.vm.findClass "java/lang/Long" = some m.cls := findClass_of_methodNamed Bd.named
  have hnm := (name_of_methodNamed Bd.named Bd.method).1
  have X0 : Stand p l e ({ frames := 1, cells := 0, slots := 0, locals := 14 } : Room) s m #[(.long q1)] below meth c s₁ [] 0 0 := Stand.of_body Bd
  have e0 : s₁.heap = h0 := by rw [← hh, Bd.state]; rfl
  have N0 := Fr.nil n0
  have pre0 : ∀ t, Steps p.tables e below (s₁.setTop (mkF m 0 #[.val (.long q1), .second, .unset] [])) t → Steps p.tables e below (s₁.setTop (entryFrame m #[(.long q1)] 3)) t := fun t k => castTop (ef_4 m q1) k
  obtain ⟨_, _, ⟨T2, L2, k2, n2⟩, -, X2, ⟨Lc2, hQ2, l2, y2, z2⟩, st2⟩ := Jvm.LawKit.callS X0 hx (y := (⟨"java/lang/Integer", "numberOfLeadingZeros", "(I)I"⟩ : MethodName)) hown (mvT hZ (hw _ (List.mem_of_getElem? (i := 20) rfl))) (mvT hZ (hw _ (List.mem_of_getElem? (i := 21) rfl))) (mvT hZ (hw _ (List.mem_of_getElem? (i := 22) rfl))) (mvT hZ (hw _ (List.mem_of_getElem? (i := 23) rfl))) (by decide) (backOf (W := 1) (rm5q l Z a0 hw [] (q1.toInt32) v0 hv (by rw [hq]; exact own_l2i hv) h0 n0 Z0) hZ (hw _ (List.mem_of_getElem? (i := 23) rfl)) (hw _ (List.mem_of_getElem? (i := 22) rfl)) (by decide) (by decide)) (g := (mkF m 14 #[.val (.long q1), .second, .val (.int (((q1.toUInt64 >>> ((32 : Int32) &&& 0x3f).toInt64.toUInt64).toInt64).toInt32))] [(.int (q1.toInt32)), (.int (32 : Int32))])) rfl (by rw [hml]; rfl) (argsL := [(.int (q1.toInt32))]) (rest := [(.int (32 : Int32))]) (lenOf pd_4_4 rfl) rfl (by show 2 * 0 + _ ≤ _; exact Nat.le_of_eq rfl) (hb hby d4_14) (fun _ _ => ⟨rfl, e0, (by decide : 0 + 0 ≤ _), (by decide : 0 + 0 ≤ _)⟩)
  dsimp only [Pt.U, Pt.locs, Pt.cells, Pt.slots] at X2 l2 y2 z2 st2 hQ2
  subst l2 y2 z2
  obtain ⟨rfl, N2q, q2⟩ := hQ2
  have N2 := Fr.app N0 N2q
  obtain ⟨fs, hr, hrun, hended, hW, hsame⟩ := X2.leave (v := some (.int ((32 : Int32) + (Int32.ofNat (own_nlz v0))))) (fun h => by rw [Bd.returns] at h; cases h)
  refine ⟨_, _, pre0 _ ?_, hrun, hended, _, _, rfl, ?_, ⟨_, rfl⟩, hW, hsame.mono (by decide) (by decide)⟩
  · show Steps p.tables e below (s₁.setTop (mkF m 0 #[.val (.long q1), .second, .unset] [])) _
    refine XS.lloadN X0.here hx rfl (hb hby d4_0) rfl ?_
    show Steps p.tables e below (s₁.setTop (mkF m 1 #[.val (.long q1), .second, .unset] [(.long q1)])) _
    refine XS.bipush X0.here hx rfl (hb hby d4_1) ?_
    show Steps p.tables e below (s₁.setTop (mkF m 3 #[.val (.long q1), .second, .unset] [(.int (32 : Int32)), (.long q1)])) _
    refine XS.lushr X0.here hx rfl (hb hby d4_3) rfl ?_
    show Steps p.tables e below (s₁.setTop (mkF m 4 #[.val (.long q1), .second, .unset] [(.long ((q1.toUInt64 >>> ((32 : Int32) &&& 0x3f).toInt64.toUInt64).toInt64))])) _
    refine XS.l2i X0.here hx rfl (hb hby d4_4) rfl ?_
    show Steps p.tables e below (s₁.setTop (mkF m 5 #[.val (.long q1), .second, .unset] [(.int (((q1.toUInt64 >>> ((32 : Int32) &&& 0x3f).toInt64.toUInt64).toInt64).toInt32))])) _
    refine XS.istoreN X0.here hx rfl (hb hby d4_5) rfl (l' := #[.val (.long q1), .second, .val (.int (((q1.toUInt64 >>> ((32 : Int32) &&& 0x3f).toInt64.toUInt64).toInt64).toInt32))]) rfl ?_
    show Steps p.tables e below (s₁.setTop (mkF m 6 #[.val (.long q1), .second, .val (.int (((q1.toUInt64 >>> ((32 : Int32) &&& 0x3f).toInt64.toUInt64).toInt64).toInt32))] [])) _
    refine XS.iloadN X0.here hx rfl (hb hby d4_6) rfl ?_
    show Steps p.tables e below (s₁.setTop (mkF m 7 #[.val (.long q1), .second, .val (.int (((q1.toUInt64 >>> ((32 : Int32) &&& 0x3f).toInt64.toUInt64).toInt64).toInt32))] [(.int (((q1.toUInt64 >>> ((32 : Int32) &&& 0x3f).toInt64.toUInt64).toInt64).toInt32))])) _
    refine XS.ifNo X0.here hx rfl (hb hby d4_7) rfl ((if0 _ _).trans (teq (by rw [hq]; exact own_hi0 hv)).2) ?_
    show Steps p.tables e below (s₁.setTop (mkF m 10 #[.val (.long q1), .second, .val (.int (((q1.toUInt64 >>> ((32 : Int32) &&& 0x3f).toInt64.toUInt64).toInt64).toInt32))] [])) _
    refine XS.bipush X0.here hx rfl (hb hby d4_10) ?_
    show Steps p.tables e below (s₁.setTop (mkF m 12 #[.val (.long q1), .second, .val (.int (((q1.toUInt64 >>> ((32 : Int32) &&& 0x3f).toInt64.toUInt64).toInt64).toInt32))] [(.int (32 : Int32))])) _
    refine XS.lloadN X0.here hx rfl (hb hby d4_12) rfl ?_
    show Steps p.tables e below (s₁.setTop (mkF m 13 #[.val (.long q1), .second, .val (.int (((q1.toUInt64 >>> ((32 : Int32) &&& 0x3f).toInt64.toUInt64).toInt64).toInt32))] [(.long q1), (.int (32 : Int32))])) _
    refine XS.l2i X0.here hx rfl (hb hby d4_13) rfl ?_
    show Steps p.tables e below (s₁.setTop (mkF m 14 #[.val (.long q1), .second, .val (.int (((q1.toUInt64 >>> ((32 : Int32) &&& 0x3f).toInt64.toUInt64).toInt64).toInt32))] [(.int (q1.toInt32)), (.int (32 : Int32))])) _
    refine st2 _ ?_
    show Steps p.tables e below (T2.setTop (mkF m 17 #[.val (.long q1), .second, .val (.int (((q1.toUInt64 >>> ((32 : Int32) &&& 0x3f).toInt64.toUInt64).toInt64).toInt32))] [(.int (Int32.ofNat (own_nlz v0))), (.int (32 : Int32))])) _
    refine XS.iadd X2.here hx rfl (hb hby d4_17) rfl ?_
    show Steps p.tables e below (T2.setTop (mkF m 18 #[.val (.long q1), .second, .val (.int (((q1.toUInt64 >>> ((32 : Int32) &&& 0x3f).toInt64.toUInt64).toInt64).toInt32))] [(.int ((32 : Int32) + (Int32.ofNat (own_nlz v0))))])) _
    refine XS.goto X2.here hx rfl (pc0 := 18) (pc' := 25) rfl (hb hby d4_18) (by decide) (by decide) ?_
    show Steps p.tables e below (T2.setTop (mkF m 25 #[.val (.long q1), .second, .val (.int (((q1.toUInt64 >>> ((32 : Int32) &&& 0x3f).toInt64.toUInt64).toInt64).toInt32))] [(.int ((32 : Int32) + (Int32.ofNat (own_nlz v0))))])) _
    exact retI X2 hx Bd.returns (hb hby d4_25) hr
  · show Q4 h0 n0 v0 _ T2.heap _
    exact ⟨rfl, N2, q2⟩

def own_h (c : Nat) : Nat := if (33 - own_nlz (c - 1)) / 2 < 1 then 1 else (33 - own_nlz (c - 1)) / 2
theorem own_hbz : ∀ z, z < 33 → own_f1 (1 : Int32) ((((64 : Int32) - ((32 : Int32) + Int32.ofNat z)) + (1 : Int32)) / (2 : Int32)) = Int32.ofNat (if (33 - z) / 2 < 1 then 1 else (33 - z) / 2) := by decide
theorem own_hb {c : Nat} (hc : c < 2147483648) : own_f1 (1 : Int32) ((((64 : Int32) - ((32 : Int32) + Int32.ofNat (own_nlz (c - 1)))) + (1 : Int32)) / (2 : Int32)) = Int32.ofNat (own_h c) := own_hbz _ (by have := own_nlz_le (v := c - 1) (by omega); omega)
theorem own_h_lt (c : Nat) : own_h c < 17 ∧ 1 ≤ own_h c := by unfold own_h; split <;> omega
theorem own_h_ok {c : Nat} (hc : c < 2147483648) (h1 : 1 ≤ c) : c ≤ 2 ^ (2 * own_h c) := by
  have h2 := own_nlz_spec (v := c - 1) (by omega)
  have h3 := own_nlz_le (v := c - 1) (by omega)
  have h4 : 32 - own_nlz (c - 1) ≤ 2 * own_h c := by unfold own_h; split <;> omega
  have h5 := Nat.pow_le_pow_right (n := 2) (by decide) h4
  omega
theorem own_c1 {c : Nat} (hc : c < 2147483648) (h1 : 1 ≤ c) : (Int32.ofNat c).toInt64 - (1 : Int64) = Int64.ofNat (c - 1) := by
  apply Int64.toInt_inj.mp
  rw [own_i2l hc, Int64.toInt_sub, own_i64 hc, own_i64 (by omega), show (1 : Int64).toInt = 1 by decide, Int.bmod_eq_of_le] <;> omega
theorem d2_0 : decode prog_29_method_1_code 0 = .ok (.aload_n 0, 1) := by decide +kernel
theorem d2_1 : decode prog_29_method_1_code 1 = .ok (.invokespecial 1, 3) := by decide +kernel
theorem d2_4 : decode prog_29_method_1_code 4 = .ok (.iload_n 1, 1) := by decide +kernel
theorem d2_5 : decode prog_29_method_1_code 5 = .ok (.iconst 1, 1) := by decide +kernel
theorem d2_6 : decode prog_29_method_1_code 6 = .ok (.if_icmp .ge 17, 3) := by decide +kernel
theorem d2_23 : decode prog_29_method_1_code 23 = .ok (.aload_n 0, 1) := by decide +kernel
theorem d2_24 : decode prog_29_method_1_code 24 = .ok (.iload_n 1, 1) := by decide +kernel
theorem d2_25 : decode prog_29_method_1_code 25 = .ok (.i2l, 1) := by decide +kernel
theorem d2_26 : decode prog_29_method_1_code 26 = .ok (.putfield 16, 3) := by decide +kernel
theorem d2_29 : decode prog_29_method_1_code 29 = .ok (.bipush 64, 2) := by decide +kernel
theorem d2_31 : decode prog_29_method_1_code 31 = .ok (.iload_n 1, 1) := by decide +kernel
theorem d2_32 : decode prog_29_method_1_code 32 = .ok (.i2l, 1) := by decide +kernel
theorem d2_33 : decode prog_29_method_1_code 33 = .ok (.lconst 1, 1) := by decide +kernel
theorem d2_34 : decode prog_29_method_1_code 34 = .ok (.lsub, 1) := by decide +kernel
theorem d2_35 : decode prog_29_method_1_code 35 = .ok (.invokestatic 22, 3) := by decide +kernel
theorem d2_38 : decode prog_29_method_1_code 38 = .ok (.isub, 1) := by decide +kernel
theorem d2_39 : decode prog_29_method_1_code 39 = .ok (.istore_n 2, 1) := by decide +kernel
theorem d2_40 : decode prog_29_method_1_code 40 = .ok (.aload_n 0, 1) := by decide +kernel
theorem d2_41 : decode prog_29_method_1_code 41 = .ok (.iconst 1, 1) := by decide +kernel
theorem d2_42 : decode prog_29_method_1_code 42 = .ok (.iload_n 2, 1) := by decide +kernel
theorem d2_43 : decode prog_29_method_1_code 43 = .ok (.iconst 1, 1) := by decide +kernel
theorem d2_44 : decode prog_29_method_1_code 44 = .ok (.iadd, 1) := by decide +kernel
theorem d2_45 : decode prog_29_method_1_code 45 = .ok (.iconst 2, 1) := by decide +kernel
theorem d2_46 : decode prog_29_method_1_code 46 = .ok (.idiv, 1) := by decide +kernel
theorem d2_47 : decode prog_29_method_1_code 47 = .ok (.invokestatic 28, 3) := by decide +kernel
theorem d2_50 : decode prog_29_method_1_code 50 = .ok (.putfield 34, 3) := by decide +kernel
theorem d2_53 : decode prog_29_method_1_code 53 = .ok (.aload_n 0, 1) := by decide +kernel
theorem d2_54 : decode prog_29_method_1_code 54 = .ok (.lconst 1, 1) := by decide +kernel
theorem d2_55 : decode prog_29_method_1_code 55 = .ok (.aload_n 0, 1) := by decide +kernel
theorem d2_56 : decode prog_29_method_1_code 56 = .ok (.getfield 34, 3) := by decide +kernel
theorem d2_59 : decode prog_29_method_1_code 59 = .ok (.lshl, 1) := by decide +kernel
theorem d2_60 : decode prog_29_method_1_code 60 = .ok (.lconst 1, 1) := by decide +kernel
theorem d2_61 : decode prog_29_method_1_code 61 = .ok (.lsub, 1) := by decide +kernel
theorem d2_62 : decode prog_29_method_1_code 62 = .ok (.putfield 38, 3) := by decide +kernel
theorem d2_65 : decode prog_29_method_1_code 65 = .ok (.return_, 1) := by decide +kernel
theorem pn_2 : plainName "com/example/syncline/syncline/client/bench/Scatter" = true := by first | (simp [plainName, overriddenIn]; done) | decide +kernel
theorem pd_2_3 : parseMethodDescriptor "(J)I" = some ⟨[.long], some .int⟩ := by decide +kernel
theorem pd_2_0 : parseMethodDescriptor "(II)I" = some ⟨[.int, .int], some .int⟩ := by decide +kernel
theorem ef_2 (m : MethodId) (x0 : Addr) (x1 : Int32) : entryFrame m #[(.ref x0), (.int x1)] 3 = mkF m 0 #[.val (.ref x0), .val (.int x1), .unset] [] := by first | (simp [entryFrame, mkF, argsToLocals, Value.category]; done) | rfl
def Q2 (Z : State) (a1 : Addr) (cN : Nat) (h0 : Heap) (n0 : Nat) (v : Option Value) (h : Heap) (L : List Loc) : Prop := v = none ∧ Fr n0 L ∧ Keep h0 h [a1] ∧ Exa Z h a1 "com/example/syncline/syncline/client/bench/Scatter" ∧ Fld Z h a1 "com/example/syncline/syncline/client/bench/Scatter" "count" "J" (.long (Int64.ofNat cN)) ∧ Fld Z h a1 "com/example/syncline/syncline/client/bench/Scatter" "halfBits" "I" (.int (Int32.ofNat (own_h cN))) ∧ Fld Z h a1 "com/example/syncline/syncline/client/bench/Scatter" "halfMask" "J" (.long (own_hm (Int32.ofNat (own_h cN))))
set_option maxRecDepth 65536 in
set_option maxHeartbeats 40000000 in
theorem rm2 (l : Launch) (Z : State) (a0 : Array Value) (hw : ∀ d ∈ tables_1, d.before a0 Z = true) (ws : List Jvm.Cond) (a1 : Addr) (p2 : Int32) (u_count_a1 : Value) (u_halfBits_a1 : Value) (u_halfMask_a1 : Value) (cN : Nat) (hc : cN < 2147483648) (h1c : 1 ≤ cN) (hp2 : p2 = Int32.ofNat cN) (h0 : Heap) (n0 : Nat) (Z0 : n0 ≤ h0.size) (E_a1 : Exa Z h0 a1 "com/example/syncline/syncline/client/bench/Scatter") (F_count_a1 : Fld Z h0 a1 "com/example/syncline/syncline/client/bench/Scatter" "count" "J" u_count_a1) (g_a1 : n0 ≤ a1) (F_halfBits_a1 : Fld Z h0 a1 "com/example/syncline/syncline/client/bench/Scatter" "halfBits" "I" u_halfBits_a1) (F_halfMask_a1 : Fld Z h0 a1 "com/example/syncline/syncline/client/bench/Scatter" "halfMask" "J" u_halfMask_a1) :
    MetFree l (⟨"com/example/syncline/syncline/client/bench/Scatter", "<init>", "(I)V"⟩ : MethodName) (head1 (Jvm.Cond.code (⟨"com/example/syncline/syncline/client/bench/Scatter", "<init>", "(I)V"⟩ : MethodName) prog_29_method_1_code 3 none :: ws) ({ frames := 2, cells := 0, slots := 0, locals := 29 } : Room)) (fun a U => a = #[(.ref a1), (.int p2)] ∧ Z.Warmed39 U.vm ∧ U.heap = h0) (fun _ _ _ _ _ => True) (fun _ U o U' => ∃ v L, o = .returned v ∧ Q2 Z a1 cN h0 n0 v U'.heap L ∧ FrameEnd U o U' L ({ frames := 2, cells := 0, slots := 0, locals := 29 } : Room).cells ({ frames := 2, cells := 0, slots := 0, locals := 29 } : Room).slots) := by
  refine MetFree.of_bodySF (plainFor_of_name pn_2) hisR ?_
  intro p e s m args below meth c s₁ Bd hml0 hP hK
  obtain ⟨rfl, hZ, hh⟩ := hP
  have hx := Bd.exec
  have hby := Bd.bytes
  have hml : c.maxLocals = 3 := hml0
  have hown : s.vm.findClass "com/example/syncline/syncline/client/bench/Scatter" = some m.cls := findClass_of_methodNamed Bd.named
  have hnm := (name_of_methodNamed Bd.named Bd.method).1
  have X0 : Stand p l e ({ frames := 2, cells := 0, slots := 0, locals := 29 } : Room) s m #[(.ref a1), (.int p2)] below meth c s₁ [] 0 0 := Stand.of_body Bd
  have e0 : s₁.heap = h0 := by rw [← hh, Bd.state]; rfl
  have N0 := Fr.nil n0
  have pre0 : ∀ t, Steps p.tables e below (s₁.setTop (mkF m 0 #[.val (.ref a1), .val (.int p2), .unset] [])) t → Steps p.tables e below (s₁.setTop (entryFrame m #[(.ref a1), (.int p2)] 3)) t := fun t k => castTop (ef_2 m a1 p2) k
  obtain ⟨T3, X3, e3, st3⟩ := initO X0 hx hZ hown (hw _ (List.mem_of_getElem? (i := 11) rfl)) (hw _ (List.mem_of_getElem? (i := 12) rfl)) (hw _ (List.mem_of_getElem? (i := 13) rfl)) e0 (g := (mkF m 1 #[.val (.ref a1), .val (.int p2), .unset] [(.ref a1)])) rfl (by rw [hml]; rfl) rfl (hb hby d2_1) (by decide) (W := 0) (by show 2 * 0 + _ ≤ _; exact Nat.le_of_eq rfl) (by decide)
  obtain ⟨T4, h4, X4, e4, W4, st4⟩ := putF X3 hx hZ hown (host := "") (Or.inl (hw _ (List.mem_of_getElem? (i := 14) rfl))) Via.refl e3 F_count_a1 E_a1 (Or.inr ⟨(hw _ (List.mem_of_getElem? (i := 15) rfl)), rfl, hnm⟩) (hw _ (List.mem_of_getElem? (i := 6) rfl)) (ty := .long) (by decide) rfl rfl (g := (mkF m 26 #[.val (.ref a1), .val (.int p2), .unset] [(.long (p2.toInt64)), (.ref a1)])) rfl rfl (hb hby d2_26)
  have Fw4 := F_count_a1.same W4
  have K4 : Keep h0 h4 [a1] := (Keep.refl h0 [a1]).wr W4 (Or.inl (List.mem_of_getElem? (i := 0) rfl))
  have N4 := Fr.snoc X4 N0 g_a1
  obtain ⟨_, _, ⟨T5, L5, k5, n5⟩, -, X5, ⟨Lc5, hQ5, l5, y5, z5⟩, st5⟩ := Jvm.LawKit.callS X4 hx (y := (⟨"java/lang/Long", "numberOfLeadingZeros", "(J)I"⟩ : MethodName)) hown (mvT hZ (hw _ (List.mem_of_getElem? (i := 16) rfl))) (mvT hZ (hw _ (List.mem_of_getElem? (i := 17) rfl))) (mvT hZ (hw _ (List.mem_of_getElem? (i := 18) rfl))) (mvT hZ (hw _ (List.mem_of_getElem? (i := 19) rfl))) (by decide) (backOf (W := 1) (rm4 l Z a0 hw [] ((p2.toInt64) - (1 : Int64)) (cN - 1) (by omega) (by rw [hp2]; exact own_c1 hc h1c) h4 n0 (Nat.le_trans Z0 K4.1)) hZ (hw _ (List.mem_of_getElem? (i := 19) rfl)) (hw _ (List.mem_of_getElem? (i := 18) rfl)) (by decide) (by decide)) (g := (mkF m 35 #[.val (.ref a1), .val (.int p2), .unset] [(.long ((p2.toInt64) - (1 : Int64))), (.int (64 : Int32))])) rfl (by rw [hml]; rfl) (argsL := [(.long ((p2.toInt64) - (1 : Int64)))]) (rest := [(.int (64 : Int32))]) (lenOf pd_2_3 rfl) rfl (by show 2 * 0 + _ ≤ _; exact Nat.le_of_eq rfl) (hb hby d2_35) (fun _ _ => ⟨rfl, e4, (by decide : 0 + 0 ≤ _), (by decide : 0 + 0 ≤ _)⟩)
  dsimp only [Pt.U, Pt.locs, Pt.cells, Pt.slots] at X5 l5 y5 z5 st5 hQ5
  subst l5 y5 z5
  obtain ⟨rfl, N5q, q5⟩ := hQ5
  have K5 : Keep h4 T5.heap [] := by rw [q5]; exact Keep.refl _ _
  have N5 := Fr.app N4 N5q
  obtain ⟨_, _, ⟨T6, L6, k6, n6⟩, -, X6, ⟨Lc6, hQ6, l6, y6, z6⟩, st6⟩ := Jvm.LawKit.callS X5 hx (y := (⟨"java/lang/Math", "max", "(II)I"⟩ : MethodName)) hown (mvT hZ (hw _ (List.mem_of_getElem? (i := 24) rfl))) (mvT hZ (hw _ (List.mem_of_getElem? (i := 2) rfl))) (mvT hZ (hw _ (List.mem_of_getElem? (i := 3) rfl))) (mvT hZ (hw _ (List.mem_of_getElem? (i := 4) rfl))) (by decide) (backOf (W := 1) (rm1 l Z a0 hw [] (1 : Int32) ((((64 : Int32) - ((32 : Int32) + Int32.ofNat (own_nlz (cN - 1)))) + (1 : Int32)) / (2 : Int32)) T5.heap n0 (by rw [q5]; exact Nat.le_trans Z0 K4.1)) hZ (hw _ (List.mem_of_getElem? (i := 4) rfl)) (hw _ (List.mem_of_getElem? (i := 3) rfl)) (by decide) (by decide)) (g := (mkF m 47 #[.val (.ref a1), .val (.int p2), .val (.int ((64 : Int32) - ((32 : Int32) + Int32.ofNat (own_nlz (cN - 1)))))] [(.int ((((64 : Int32) - ((32 : Int32) + Int32.ofNat (own_nlz (cN - 1)))) + (1 : Int32)) / (2 : Int32))), (.int (1 : Int32)), (.ref a1)])) rfl (by rw [hml]; rfl) (argsL := [(.int (1 : Int32)), (.int ((((64 : Int32) - ((32 : Int32) + Int32.ofNat (own_nlz (cN - 1)))) + (1 : Int32)) / (2 : Int32)))]) (rest := [(.ref a1)]) (lenOf pd_2_0 rfl) rfl (by show 2 * 0 + _ ≤ _; exact Nat.le_of_eq rfl) (hb hby d2_47) (fun _ _ => ⟨rfl, rfl, (by decide : 0 + 0 ≤ _), (by decide : 0 + 0 ≤ _)⟩)
  dsimp only [Pt.U, Pt.locs, Pt.cells, Pt.slots] at X6 l6 y6 z6 st6 hQ6
  subst l6 y6 z6
  obtain ⟨rfl, N6q, q6⟩ := hQ6
  have K6 : Keep T5.heap T6.heap [] := by rw [q6]; exact Keep.refl _ _
  have KT6 : Keep h0 T6.heap [a1] := (K4.trans K5 all0).trans K6 all0
  have N6 := Fr.app N5 N6q
  obtain ⟨T7, h7, X7, e7, W7, st7⟩ := putF X6 hx hZ hown (host := "") (Or.inl (hw _ (List.mem_of_getElem? (i := 25) rfl))) Via.refl rfl (((F_halfBits_a1.other W4 (Or.inr (slot_ne (Or.inr (hw _ (List.mem_of_getElem? (i := 26) rfl))) (Or.inr (hw _ (List.mem_of_getElem? (i := 15) rfl))) (by decide) (t := .int) (t' := .long) (by decide) (by decide)))).keep K5 nin0).keep K6 nin0) (((E_a1.wr W4).keep K5).keep K6) (Or.inr ⟨(hw _ (List.mem_of_getElem? (i := 26) rfl)), rfl, hnm⟩) (hw _ (List.mem_of_getElem? (i := 6) rfl)) (ty := .int) (by decide) rfl rfl (g := (mkF m 50 #[.val (.ref a1), .val (.int p2), .val (.int ((64 : Int32) - ((32 : Int32) + Int32.ofNat (own_nlz (cN - 1)))))] [(.int (own_f1 (1 : Int32) ((((64 : Int32) - ((32 : Int32) + Int32.ofNat (own_nlz (cN - 1)))) + (1 : Int32)) / (2 : Int32)))), (.ref a1)])) rfl rfl (hb hby d2_50)
  have Fw7 := (((F_halfBits_a1.other W4 (Or.inr (slot_ne (Or.inr (hw _ (List.mem_of_getElem? (i := 26) rfl))) (Or.inr (hw _ (List.mem_of_getElem? (i := 15) rfl))) (by decide) (t := .int) (t' := .long) (by decide) (by decide)))).keep K5 nin0).keep K6 nin0).same W7
  have K7 : Keep h0 h7 [a1] := KT6.wr W7 (Or.inl (List.mem_of_getElem? (i := 0) rfl))
  have N7 := Fr.snoc X7 N6 g_a1
  obtain ⟨T8, X8, e8, st8⟩ := getF X7 hx hZ hown (host := "") (Or.inl (hw _ (List.mem_of_getElem? (i := 25) rfl))) Via.refl e7 Fw7 (g := (mkF m 56 #[.val (.ref a1), .val (.int p2), .val (.int ((64 : Int32) - ((32 : Int32) + Int32.ofNat (own_nlz (cN - 1)))))] [(.ref a1), (.long (1 : Int64)), (.ref a1)])) rfl rfl (hb hby d2_56)
  obtain ⟨T9, h9, X9, e9, W9, st9⟩ := putF X8 hx hZ hown (host := "") (Or.inl (hw _ (List.mem_of_getElem? (i := 27) rfl))) Via.refl e8 ((((F_halfMask_a1.other W4 (Or.inr (slot_ne (Or.inr (hw _ (List.mem_of_getElem? (i := 28) rfl))) (Or.inr (hw _ (List.mem_of_getElem? (i := 15) rfl))) (by decide) (t := .long) (t' := .long) (by decide) (by decide)))).keep K5 nin0).keep K6 nin0).other W7 (Or.inr (slot_ne (Or.inr (hw _ (List.mem_of_getElem? (i := 28) rfl))) (Or.inr (hw _ (List.mem_of_getElem? (i := 26) rfl))) (by decide) (t := .long) (t' := .int) (by decide) (by decide)))) ((((E_a1.wr W4).keep K5).keep K6).wr W7) (Or.inr ⟨(hw _ (List.mem_of_getElem? (i := 28) rfl)), rfl, hnm⟩) (hw _ (List.mem_of_getElem? (i := 6) rfl)) (ty := .long) (by decide) rfl rfl (g := (mkF m 62 #[.val (.ref a1), .val (.int p2), .val (.int ((64 : Int32) - ((32 : Int32) + Int32.ofNat (own_nlz (cN - 1)))))] [(.long (((1 : Int64) <<< ((own_f1 (1 : Int32) ((((64 : Int32) - ((32 : Int32) + Int32.ofNat (own_nlz (cN - 1)))) + (1 : Int32)) / (2 : Int32))) &&& 0x3f).toInt64) - (1 : Int64))), (.ref a1)])) rfl rfl (hb hby d2_62)
  have Fw9 := ((((F_halfMask_a1.other W4 (Or.inr (slot_ne (Or.inr (hw _ (List.mem_of_getElem? (i := 28) rfl))) (Or.inr (hw _ (List.mem_of_getElem? (i := 15) rfl))) (by decide) (t := .long) (t' := .long) (by decide) (by decide)))).keep K5 nin0).keep K6 nin0).other W7 (Or.inr (slot_ne (Or.inr (hw _ (List.mem_of_getElem? (i := 28) rfl))) (Or.inr (hw _ (List.mem_of_getElem? (i := 26) rfl))) (by decide) (t := .long) (t' := .int) (by decide) (by decide)))).same W9
  have K9 : Keep h0 h9 [a1] := K7.wr W9 (Or.inl (List.mem_of_getElem? (i := 0) rfl))
  have N9 := Fr.snoc X9 N7 g_a1
  obtain ⟨fs, hr, hrun, hended, hW, hsame⟩ := X9.leave (v := none) (fun _ => rfl)
  refine ⟨_, _, pre0 _ ?_, hrun, hended, _, _, rfl, ?_, ⟨_, rfl⟩, hW, hsame.mono (by decide) (by decide)⟩
  · show Steps p.tables e below (s₁.setTop (mkF m 0 #[.val (.ref a1), .val (.int p2), .unset] [])) _
    refine XS.aloadN X0.here hx rfl (hb hby d2_0) rfl rfl ?_
    show Steps p.tables e below (s₁.setTop (mkF m 1 #[.val (.ref a1), .val (.int p2), .unset] [(.ref a1)])) _
    refine st3 _ ?_
    show Steps p.tables e below (T3.setTop (mkF m 4 #[.val (.ref a1), .val (.int p2), .unset] [])) _
    refine XS.iloadN X3.here hx rfl (hb hby d2_4) rfl ?_
    show Steps p.tables e below (T3.setTop (mkF m 5 #[.val (.ref a1), .val (.int p2), .unset] [(.int p2)])) _
    refine XS.iconst X3.here hx rfl (hb hby d2_5) ?_
    show Steps p.tables e below (T3.setTop (mkF m 6 #[.val (.ref a1), .val (.int p2), .unset] [(.int (1 : Int32)), (.int p2)])) _
    refine XS.icmpYes X3.here hx rfl (pc0 := 6) (pc' := 23) rfl (hb hby d2_6) rfl (flt (show ¬ (p2 < (1 : Int32)) by rw [hp2]; exact fun z => by have := (own_ltn (i := cN) (n := 1) hc (by decide)).mp z; omega)).2.1 (by decide) (by decide) ?_
    show Steps p.tables e below (T3.setTop (mkF m 23 #[.val (.ref a1), .val (.int p2), .unset] [])) _
    refine XS.aloadN X3.here hx rfl (hb hby d2_23) rfl rfl ?_
    show Steps p.tables e below (T3.setTop (mkF m 24 #[.val (.ref a1), .val (.int p2), .unset] [(.ref a1)])) _
    refine XS.iloadN X3.here hx rfl (hb hby d2_24) rfl ?_
    show Steps p.tables e below (T3.setTop (mkF m 25 #[.val (.ref a1), .val (.int p2), .unset] [(.int p2), (.ref a1)])) _
    refine XS.i2l X3.here hx rfl (hb hby d2_25) rfl ?_
    show Steps p.tables e below (T3.setTop (mkF m 26 #[.val (.ref a1), .val (.int p2), .unset] [(.long (p2.toInt64)), (.ref a1)])) _
    refine st4 _ ?_
    show Steps p.tables e below (T4.setTop (mkF m 29 #[.val (.ref a1), .val (.int p2), .unset] [])) _
    refine XS.bipush X4.here hx rfl (hb hby d2_29) ?_
    show Steps p.tables e below (T4.setTop (mkF m 31 #[.val (.ref a1), .val (.int p2), .unset] [(.int (64 : Int32))])) _
    refine XS.iloadN X4.here hx rfl (hb hby d2_31) rfl ?_
    show Steps p.tables e below (T4.setTop (mkF m 32 #[.val (.ref a1), .val (.int p2), .unset] [(.int p2), (.int (64 : Int32))])) _
    refine XS.i2l X4.here hx rfl (hb hby d2_32) rfl ?_
    show Steps p.tables e below (T4.setTop (mkF m 33 #[.val (.ref a1), .val (.int p2), .unset] [(.long (p2.toInt64)), (.int (64 : Int32))])) _
    refine XS.lconst X4.here hx rfl (hb hby d2_33) ?_
    show Steps p.tables e below (T4.setTop (mkF m 34 #[.val (.ref a1), .val (.int p2), .unset] [(.long (1 : Int64)), (.long (p2.toInt64)), (.int (64 : Int32))])) _
    refine XS.lsub X4.here hx rfl (hb hby d2_34) rfl ?_
    show Steps p.tables e below (T4.setTop (mkF m 35 #[.val (.ref a1), .val (.int p2), .unset] [(.long ((p2.toInt64) - (1 : Int64))), (.int (64 : Int32))])) _
    refine st5 _ ?_
    show Steps p.tables e below (T5.setTop (mkF m 38 #[.val (.ref a1), .val (.int p2), .unset] [(.int ((32 : Int32) + Int32.ofNat (own_nlz (cN - 1)))), (.int (64 : Int32))])) _
    refine XS.isub X5.here hx rfl (hb hby d2_38) rfl ?_
    show Steps p.tables e below (T5.setTop (mkF m 39 #[.val (.ref a1), .val (.int p2), .unset] [(.int ((64 : Int32) - ((32 : Int32) + Int32.ofNat (own_nlz (cN - 1)))))])) _
    refine XS.istoreN X5.here hx rfl (hb hby d2_39) rfl (l' := #[.val (.ref a1), .val (.int p2), .val (.int ((64 : Int32) - ((32 : Int32) + Int32.ofNat (own_nlz (cN - 1)))))]) rfl ?_
    show Steps p.tables e below (T5.setTop (mkF m 40 #[.val (.ref a1), .val (.int p2), .val (.int ((64 : Int32) - ((32 : Int32) + Int32.ofNat (own_nlz (cN - 1)))))] [])) _
    refine XS.aloadN X5.here hx rfl (hb hby d2_40) rfl rfl ?_
    show Steps p.tables e below (T5.setTop (mkF m 41 #[.val (.ref a1), .val (.int p2), .val (.int ((64 : Int32) - ((32 : Int32) + Int32.ofNat (own_nlz (cN - 1)))))] [(.ref a1)])) _
    refine XS.iconst X5.here hx rfl (hb hby d2_41) ?_
    show Steps p.tables e below (T5.setTop (mkF m 42 #[.val (.ref a1), .val (.int p2), .val (.int ((64 : Int32) - ((32 : Int32) + Int32.ofNat (own_nlz (cN - 1)))))] [(.int (1 : Int32)), (.ref a1)])) _
    refine XS.iloadN X5.here hx rfl (hb hby d2_42) rfl ?_
    show Steps p.tables e below (T5.setTop (mkF m 43 #[.val (.ref a1), .val (.int p2), .val (.int ((64 : Int32) - ((32 : Int32) + Int32.ofNat (own_nlz (cN - 1)))))] [(.int ((64 : Int32) - ((32 : Int32) + Int32.ofNat (own_nlz (cN - 1))))), (.int (1 : Int32)), (.ref a1)])) _
    refine XS.iconst X5.here hx rfl (hb hby d2_43) ?_
    show Steps p.tables e below (T5.setTop (mkF m 44 #[.val (.ref a1), .val (.int p2), .val (.int ((64 : Int32) - ((32 : Int32) + Int32.ofNat (own_nlz (cN - 1)))))] [(.int (1 : Int32)), (.int ((64 : Int32) - ((32 : Int32) + Int32.ofNat (own_nlz (cN - 1))))), (.int (1 : Int32)), (.ref a1)])) _
    refine XS.iadd X5.here hx rfl (hb hby d2_44) rfl ?_
    show Steps p.tables e below (T5.setTop (mkF m 45 #[.val (.ref a1), .val (.int p2), .val (.int ((64 : Int32) - ((32 : Int32) + Int32.ofNat (own_nlz (cN - 1)))))] [(.int (((64 : Int32) - ((32 : Int32) + Int32.ofNat (own_nlz (cN - 1)))) + (1 : Int32))), (.int (1 : Int32)), (.ref a1)])) _
    refine XS.iconst X5.here hx rfl (hb hby d2_45) ?_
    show Steps p.tables e below (T5.setTop (mkF m 46 #[.val (.ref a1), .val (.int p2), .val (.int ((64 : Int32) - ((32 : Int32) + Int32.ofNat (own_nlz (cN - 1)))))] [(.int (2 : Int32)), (.int (((64 : Int32) - ((32 : Int32) + Int32.ofNat (own_nlz (cN - 1)))) + (1 : Int32))), (.int (1 : Int32)), (.ref a1)])) _
    refine XS.idiv X5.here hx rfl (hb hby d2_46) rfl (by decide) ?_
    show Steps p.tables e below (T5.setTop (mkF m 47 #[.val (.ref a1), .val (.int p2), .val (.int ((64 : Int32) - ((32 : Int32) + Int32.ofNat (own_nlz (cN - 1)))))] [(.int ((((64 : Int32) - ((32 : Int32) + Int32.ofNat (own_nlz (cN - 1)))) + (1 : Int32)) / (2 : Int32))), (.int (1 : Int32)), (.ref a1)])) _
    refine st6 _ ?_
    show Steps p.tables e below (T6.setTop (mkF m 50 #[.val (.ref a1), .val (.int p2), .val (.int ((64 : Int32) - ((32 : Int32) + Int32.ofNat (own_nlz (cN - 1)))))] [(.int (own_f1 (1 : Int32) ((((64 : Int32) - ((32 : Int32) + Int32.ofNat (own_nlz (cN - 1)))) + (1 : Int32)) / (2 : Int32)))), (.ref a1)])) _
    refine st7 _ ?_
    show Steps p.tables e below (T7.setTop (mkF m 53 #[.val (.ref a1), .val (.int p2), .val (.int ((64 : Int32) - ((32 : Int32) + Int32.ofNat (own_nlz (cN - 1)))))] [])) _
    refine XS.aloadN X7.here hx rfl (hb hby d2_53) rfl rfl ?_
    show Steps p.tables e below (T7.setTop (mkF m 54 #[.val (.ref a1), .val (.int p2), .val (.int ((64 : Int32) - ((32 : Int32) + Int32.ofNat (own_nlz (cN - 1)))))] [(.ref a1)])) _
    refine XS.lconst X7.here hx rfl (hb hby d2_54) ?_
    show Steps p.tables e below (T7.setTop (mkF m 55 #[.val (.ref a1), .val (.int p2), .val (.int ((64 : Int32) - ((32 : Int32) + Int32.ofNat (own_nlz (cN - 1)))))] [(.long (1 : Int64)), (.ref a1)])) _
    refine XS.aloadN X7.here hx rfl (hb hby d2_55) rfl rfl ?_
    show Steps p.tables e below (T7.setTop (mkF m 56 #[.val (.ref a1), .val (.int p2), .val (.int ((64 : Int32) - ((32 : Int32) + Int32.ofNat (own_nlz (cN - 1)))))] [(.ref a1), (.long (1 : Int64)), (.ref a1)])) _
    refine st8 _ ?_
    show Steps p.tables e below (T8.setTop (mkF m 59 #[.val (.ref a1), .val (.int p2), .val (.int ((64 : Int32) - ((32 : Int32) + Int32.ofNat (own_nlz (cN - 1)))))] [(.int (own_f1 (1 : Int32) ((((64 : Int32) - ((32 : Int32) + Int32.ofNat (own_nlz (cN - 1)))) + (1 : Int32)) / (2 : Int32)))), (.long (1 : Int64)), (.ref a1)])) _
    refine XS.lshl X8.here hx rfl (hb hby d2_59) rfl ?_
    show Steps p.tables e below (T8.setTop (mkF m 60 #[.val (.ref a1), .val (.int p2), .val (.int ((64 : Int32) - ((32 : Int32) + Int32.ofNat (own_nlz (cN - 1)))))] [(.long ((1 : Int64) <<< ((own_f1 (1 : Int32) ((((64 : Int32) - ((32 : Int32) + Int32.ofNat (own_nlz (cN - 1)))) + (1 : Int32)) / (2 : Int32))) &&& 0x3f).toInt64)), (.ref a1)])) _
    refine XS.lconst X8.here hx rfl (hb hby d2_60) ?_
    show Steps p.tables e below (T8.setTop (mkF m 61 #[.val (.ref a1), .val (.int p2), .val (.int ((64 : Int32) - ((32 : Int32) + Int32.ofNat (own_nlz (cN - 1)))))] [(.long (1 : Int64)), (.long ((1 : Int64) <<< ((own_f1 (1 : Int32) ((((64 : Int32) - ((32 : Int32) + Int32.ofNat (own_nlz (cN - 1)))) + (1 : Int32)) / (2 : Int32))) &&& 0x3f).toInt64)), (.ref a1)])) _
    refine XS.lsub X8.here hx rfl (hb hby d2_61) rfl ?_
    show Steps p.tables e below (T8.setTop (mkF m 62 #[.val (.ref a1), .val (.int p2), .val (.int ((64 : Int32) - ((32 : Int32) + Int32.ofNat (own_nlz (cN - 1)))))] [(.long (((1 : Int64) <<< ((own_f1 (1 : Int32) ((((64 : Int32) - ((32 : Int32) + Int32.ofNat (own_nlz (cN - 1)))) + (1 : Int32)) / (2 : Int32))) &&& 0x3f).toInt64) - (1 : Int64))), (.ref a1)])) _
    refine st9 _ ?_
    show Steps p.tables e below (T9.setTop (mkF m 65 #[.val (.ref a1), .val (.int p2), .val (.int ((64 : Int32) - ((32 : Int32) + Int32.ofNat (own_nlz (cN - 1)))))] [])) _
    exact X9.returnOut hx Bd.returns (hb hby d2_65) hr
  · show Q2 Z a1 cN h0 n0 _ T9.heap _
    rw [e9]
    have eh : (own_f1 (1 : Int32) ((((64 : Int32) - ((32 : Int32) + Int32.ofNat (own_nlz (cN - 1)))) + (1 : Int32)) / (2 : Int32))) = Int32.ofNat (own_h cN) := own_hb hc
    have ec : p2.toInt64 = Int64.ofNat cN := by rw [hp2]; exact own_i2l hc
    have G1 := (((Fw4.keep K5 nin0).keep K6 nin0).other W7 (Or.inr (slot_ne (Or.inr (hw _ (List.mem_of_getElem? (i := 15) rfl))) (Or.inr (hw _ (List.mem_of_getElem? (i := 26) rfl))) (by decide) (t := .long) (t' := .int) (by decide) (by decide)))).other W9 (Or.inr (slot_ne (Or.inr (hw _ (List.mem_of_getElem? (i := 15) rfl))) (Or.inr (hw _ (List.mem_of_getElem? (i := 28) rfl))) (by decide) (t := .long) (t' := .long) (by decide) (by decide)))
    have G2 := Fw7.other W9 (Or.inr (slot_ne (Or.inr (hw _ (List.mem_of_getElem? (i := 26) rfl))) (Or.inr (hw _ (List.mem_of_getElem? (i := 28) rfl))) (by decide) (t := .int) (t' := .long) (by decide) (by decide)))
    have G3 : Fld Z h9 a1 "com/example/syncline/syncline/client/bench/Scatter" "halfMask" "J" (.long (own_hm (own_f1 (1 : Int32) ((((64 : Int32) - ((32 : Int32) + Int32.ofNat (own_nlz (cN - 1)))) + (1 : Int32)) / (2 : Int32))))) := Fw9
    rw [ec] at G1
    rw [eh] at G2 G3
    exact ⟨rfl, N9, K9, ((((E_a1.wr W4).keep K5).keep K6).wr W7).wr W9, G1, G2, G3⟩
theorem d7_0 : decode prog_29_method_3_code 0 = .ok (.lload_n 1, 1) := by decide +kernel
theorem d7_1 : decode prog_29_method_3_code 1 = .ok (.aload_n 0, 1) := by decide +kernel
theorem d7_2 : decode prog_29_method_3_code 2 = .ok (.getfield 34, 3) := by decide +kernel
theorem d7_5 : decode prog_29_method_3_code 5 = .ok (.lushr, 1) := by decide +kernel
theorem d7_6 : decode prog_29_method_3_code 6 = .ok (.lstore_n 3, 1) := by decide +kernel
theorem d7_7 : decode prog_29_method_3_code 7 = .ok (.lload_n 1, 1) := by decide +kernel
theorem d7_8 : decode prog_29_method_3_code 8 = .ok (.aload_n 0, 1) := by decide +kernel
theorem d7_9 : decode prog_29_method_3_code 9 = .ok (.getfield 38, 3) := by decide +kernel
theorem d7_12 : decode prog_29_method_3_code 12 = .ok (.land, 1) := by decide +kernel
theorem d7_13 : decode prog_29_method_3_code 13 = .ok (.lstore 5, 2) := by decide +kernel
theorem d7_15 : decode prog_29_method_3_code 15 = .ok (.iconst 0, 1) := by decide +kernel
theorem d7_16 : decode prog_29_method_3_code 16 = .ok (.istore 7, 2) := by decide +kernel
theorem os7_16 {z0 : Value} {z1 : Value} {z3 : Value} {z5 : Value} {s7 : Slot} {s8 : Slot} {s9 : Slot} {v : Int32} (h : One s7) : storeLocals #[.val z0, .val z1, .second, .val z3, .second, .val z5, .second, s7, s8, s9] 7 (.int v) = some #[.val z0, .val z1, .second, .val z3, .second, .val z5, .second, .val (.int v), s8, s9] := by
  rcases h with rfl | ⟨w, rfl, hw⟩
  · rfl
  · cases w <;> first | rfl | (simp [Value.category] at hw)
set_option maxRecDepth 65536 in
set_option maxHeartbeats 40000000 in
theorem tn7_0_18 {p : Program} {l : Launch} {e : Env} {R : Room} {s : State} {m : MethodId} {args : Array Value} {below : List Frame} {meth : Method} {c : Code} {T0 : State} {locs : List Loc} {cells slots : Nat} {Z : State} {a0 : Array Value} {h0 : Heap} (o0 : Addr) (j1 : Int64) (w3 : Int32) (w5 : Int64)
    (X0 : Stand p l e R s m args below meth c T0 locs cells slots) (hx : p.tables.exec = Jvm.exec) (hZ : Z.Warmed39 s.vm) (hw : ∀ d ∈ tables_1, d.before a0 Z = true) (hby : c.code = prog_29_method_3_code) (hml : c.maxLocals = 10) (hown : s.vm.findClass "com/example/syncline/syncline/client/bench/Scatter" = some m.cls) (e0 : T0.heap = h0) (F_halfBits_o0 : Fld Z h0 o0 "com/example/syncline/syncline/client/bench/Scatter" "halfBits" "I" (.int w3)) (F_halfMask_o0 : Fld Z h0 o0 "com/example/syncline/syncline/client/bench/Scatter" "halfMask" "J" (.long w5)) (hs7 : One .unset) :
    ∃ (T' : State), Stand p l e R s m args below meth c T' locs cells slots ∧ T'.heap = h0 ∧
      ∀ target, Steps p.tables e below (T'.setTop (mkF m 18 #[.val (.ref o0), .val (.long j1), .second, .val (.long ((j1.toUInt64 >>> (w3 &&& 0x3f).toInt64.toUInt64).toInt64)), .second, .val (.long (j1 &&& w5)), .second, .val (.int (0 : Int32)), .unset, .unset] [])) target → Steps p.tables e below (T0.setTop (mkF m 0 #[.val (.ref o0), .val (.long j1), .second, .unset, .unset, .unset, .unset, .unset, .unset, .unset] [])) target := by
  obtain ⟨T4, X4, e4, st4⟩ := getF X0 hx hZ hown (host := "") (Or.inl (hw _ (List.mem_of_getElem? (i := 25) rfl))) Via.refl e0 F_halfBits_o0 (g := (mkF m 2 #[.val (.ref o0), .val (.long j1), .second, .unset, .unset, .unset, .unset, .unset, .unset, .unset] [(.ref o0), (.long j1)])) rfl rfl (hb hby d7_2)
  obtain ⟨T6, X6, e6, st6⟩ := getF X4 hx hZ hown (host := "") (Or.inl (hw _ (List.mem_of_getElem? (i := 27) rfl))) Via.refl e4 F_halfMask_o0 (g := (mkF m 9 #[.val (.ref o0), .val (.long j1), .second, .val (.long ((j1.toUInt64 >>> (w3 &&& 0x3f).toInt64.toUInt64).toInt64)), .second, .unset, .unset, .unset, .unset, .unset] [(.ref o0), (.long j1)])) rfl rfl (hb hby d7_9)
  refine ⟨T6, X6, e6, fun target kt => ?_⟩
  show Steps p.tables e below (T0.setTop (mkF m 0 #[.val (.ref o0), .val (.long j1), .second, .unset, .unset, .unset, .unset, .unset, .unset, .unset] [])) _
  refine XS.lloadN X0.here hx rfl (hb hby d7_0) rfl ?_
  show Steps p.tables e below (T0.setTop (mkF m 1 #[.val (.ref o0), .val (.long j1), .second, .unset, .unset, .unset, .unset, .unset, .unset, .unset] [(.long j1)])) _
  refine XS.aloadN X0.here hx rfl (hb hby d7_1) rfl rfl ?_
  show Steps p.tables e below (T0.setTop (mkF m 2 #[.val (.ref o0), .val (.long j1), .second, .unset, .unset, .unset, .unset, .unset, .unset, .unset] [(.ref o0), (.long j1)])) _
  refine st4 _ ?_
  show Steps p.tables e below (T4.setTop (mkF m 5 #[.val (.ref o0), .val (.long j1), .second, .unset, .unset, .unset, .unset, .unset, .unset, .unset] [(.int w3), (.long j1)])) _
  refine XS.lushr X4.here hx rfl (hb hby d7_5) rfl ?_
  show Steps p.tables e below (T4.setTop (mkF m 6 #[.val (.ref o0), .val (.long j1), .second, .unset, .unset, .unset, .unset, .unset, .unset, .unset] [(.long ((j1.toUInt64 >>> (w3 &&& 0x3f).toInt64.toUInt64).toInt64))])) _
  refine XS.lstoreN X4.here hx rfl (hb hby d7_6) rfl (l' := #[.val (.ref o0), .val (.long j1), .second, .val (.long ((j1.toUInt64 >>> (w3 &&& 0x3f).toInt64.toUInt64).toInt64)), .second, .unset, .unset, .unset, .unset, .unset]) rfl ?_
  show Steps p.tables e below (T4.setTop (mkF m 7 #[.val (.ref o0), .val (.long j1), .second, .val (.long ((j1.toUInt64 >>> (w3 &&& 0x3f).toInt64.toUInt64).toInt64)), .second, .unset, .unset, .unset, .unset, .unset] [])) _
  refine XS.lloadN X4.here hx rfl (hb hby d7_7) rfl ?_
  show Steps p.tables e below (T4.setTop (mkF m 8 #[.val (.ref o0), .val (.long j1), .second, .val (.long ((j1.toUInt64 >>> (w3 &&& 0x3f).toInt64.toUInt64).toInt64)), .second, .unset, .unset, .unset, .unset, .unset] [(.long j1)])) _
  refine XS.aloadN X4.here hx rfl (hb hby d7_8) rfl rfl ?_
  show Steps p.tables e below (T4.setTop (mkF m 9 #[.val (.ref o0), .val (.long j1), .second, .val (.long ((j1.toUInt64 >>> (w3 &&& 0x3f).toInt64.toUInt64).toInt64)), .second, .unset, .unset, .unset, .unset, .unset] [(.ref o0), (.long j1)])) _
  refine st6 _ ?_
  show Steps p.tables e below (T6.setTop (mkF m 12 #[.val (.ref o0), .val (.long j1), .second, .val (.long ((j1.toUInt64 >>> (w3 &&& 0x3f).toInt64.toUInt64).toInt64)), .second, .unset, .unset, .unset, .unset, .unset] [(.long w5), (.long j1)])) _
  refine XS.land X6.here hx rfl (hb hby d7_12) rfl ?_
  show Steps p.tables e below (T6.setTop (mkF m 13 #[.val (.ref o0), .val (.long j1), .second, .val (.long ((j1.toUInt64 >>> (w3 &&& 0x3f).toInt64.toUInt64).toInt64)), .second, .unset, .unset, .unset, .unset, .unset] [(.long (j1 &&& w5))])) _
  refine XS.lstore X6.here hx rfl (hb hby d7_13) rfl (l' := #[.val (.ref o0), .val (.long j1), .second, .val (.long ((j1.toUInt64 >>> (w3 &&& 0x3f).toInt64.toUInt64).toInt64)), .second, .val (.long (j1 &&& w5)), .second, .unset, .unset, .unset]) rfl ?_
  show Steps p.tables e below (T6.setTop (mkF m 15 #[.val (.ref o0), .val (.long j1), .second, .val (.long ((j1.toUInt64 >>> (w3 &&& 0x3f).toInt64.toUInt64).toInt64)), .second, .val (.long (j1 &&& w5)), .second, .unset, .unset, .unset] [])) _
  refine XS.iconst X6.here hx rfl (hb hby d7_15) ?_
  show Steps p.tables e below (T6.setTop (mkF m 16 #[.val (.ref o0), .val (.long j1), .second, .val (.long ((j1.toUInt64 >>> (w3 &&& 0x3f).toInt64.toUInt64).toInt64)), .second, .val (.long (j1 &&& w5)), .second, .unset, .unset, .unset] [(.int (0 : Int32))])) _
  refine XS.istore X6.here hx rfl (hb hby d7_16) rfl (l' := #[.val (.ref o0), .val (.long j1), .second, .val (.long ((j1.toUInt64 >>> (w3 &&& 0x3f).toInt64.toUInt64).toInt64)), .second, .val (.long (j1 &&& w5)), .second, .val (.int (0 : Int32)), .unset, .unset]) (os7_16 hs7) ?_
  exact kt
theorem d7_18 : decode prog_29_method_3_code 18 = .ok (.iload 7, 2) := by decide +kernel
theorem d7_20 : decode prog_29_method_3_code 20 = .ok (.iconst 4, 1) := by decide +kernel
theorem d7_21 : decode prog_29_method_3_code 21 = .ok (.if_icmp .ge 38, 3) := by decide +kernel
theorem d7_24 : decode prog_29_method_3_code 24 = .ok (.lload_n 3, 1) := by decide +kernel
theorem d7_25 : decode prog_29_method_3_code 25 = .ok (.lload 5, 2) := by decide +kernel
theorem d7_27 : decode prog_29_method_3_code 27 = .ok (.iload 7, 2) := by decide +kernel
theorem d7_29 : decode prog_29_method_3_code 29 = .ok (.i2l, 1) := by decide +kernel
theorem d7_30 : decode prog_29_method_3_code 30 = .ok (.ldc2_w 45, 3) := by decide +kernel
theorem d7_33 : decode prog_29_method_3_code 33 = .ok (.lmul, 1) := by decide +kernel
theorem d7_34 : decode prog_29_method_3_code 34 = .ok (.ladd, 1) := by decide +kernel
theorem d7_35 : decode prog_29_method_3_code 35 = .ok (.invokestatic 47, 3) := by decide +kernel
theorem d7_38 : decode prog_29_method_3_code 38 = .ok (.aload_n 0, 1) := by decide +kernel
theorem d7_39 : decode prog_29_method_3_code 39 = .ok (.getfield 38, 3) := by decide +kernel
theorem d7_42 : decode prog_29_method_3_code 42 = .ok (.land, 1) := by decide +kernel
theorem d7_43 : decode prog_29_method_3_code 43 = .ok (.lxor, 1) := by decide +kernel
theorem d7_44 : decode prog_29_method_3_code 44 = .ok (.lstore 8, 2) := by decide +kernel
theorem d7_46 : decode prog_29_method_3_code 46 = .ok (.lload 5, 2) := by decide +kernel
theorem d7_48 : decode prog_29_method_3_code 48 = .ok (.lstore_n 3, 1) := by decide +kernel
theorem d7_49 : decode prog_29_method_3_code 49 = .ok (.lload 8, 2) := by decide +kernel
theorem d7_51 : decode prog_29_method_3_code 51 = .ok (.lstore 5, 2) := by decide +kernel
theorem d7_53 : decode prog_29_method_3_code 53 = .ok (.iinc 7 1, 3) := by decide +kernel
theorem d7_56 : decode prog_29_method_3_code 56 = .ok (.goto (-38), 3) := by decide +kernel
theorem pd_7_5 : parseMethodDescriptor "(J)J" = some ⟨[.long], some .long⟩ := by decide +kernel
set_option maxRecDepth 65536 in
set_option maxHeartbeats 40000000 in
theorem own_ta {p : Program} {l : Launch} {e : Env} {s : State} {m : MethodId} {args : Array Value} {below : List Frame} {meth : Method} {c : Code} {T0 : State} {locs : List Loc} {Z : State} {a0 : Array Value} {h0 : Heap} {n0 : Nat} (o0 : Addr) (s1 : Slot) (s2 : Slot) (j3 : Int64) (j5 : Int64) (i7 : Int32) (w4 : Int64)
    (X0 : Stand p l e ({ frames := 1, cells := 0, slots := 0, locals := 17 } : Room) s m args below meth c T0 locs 0 0) (hx : p.tables.exec = Jvm.exec) (hZ : Z.Warmed39 s.vm) (hw : ∀ d ∈ tables_1, d.before a0 Z = true) (hby : c.code = prog_29_method_3_code) (hml : c.maxLocals = 10) (hown : s.vm.findClass "com/example/syncline/syncline/client/bench/Scatter" = some m.cls) (e0 : T0.heap = h0) (N0 : Fr n0 locs) (Z0 : n0 ≤ h0.size) (F_halfMask_o0 : Fld Z h0 o0 "com/example/syncline/syncline/client/bench/Scatter" "halfMask" "J" (.long w4)) (hc21 : i7 < (4 : Int32)) :
    ∃ (T' : State) (h' : Heap) (locs' : List Loc), Stand p l e ({ frames := 1, cells := 0, slots := 0, locals := 17 } : Room) s m args below meth c T' locs' 0 0 ∧ T'.heap = h' ∧ Fr n0 locs' ∧ n0 ≤ h'.size ∧ (h' = h0) ∧
      ∀ target, Steps p.tables e below (T'.setTop (mkF m 18 #[.val (.ref o0), s1, s2, .val (.long j5), .second, .val (.long (j3 ^^^ ((own_f8 (j5 + ((i7.toInt64) * (-7046029254386353131 : Int64)))) &&& w4))), .second, .val (.int (i7 + (1 : Int32))), .val (.long (j3 ^^^ ((own_f8 (j5 + ((i7.toInt64) * (-7046029254386353131 : Int64)))) &&& w4))), .second] [])) target → Steps p.tables e below (T0.setTop (mkF m 18 #[.val (.ref o0), s1, s2, .val (.long j3), .second, .val (.long j5), .second, .val (.int i7), .unset, .unset] [])) target := by
  obtain ⟨_, _, ⟨T3, L3, k3, n3⟩, -, X3, ⟨Lc3, hQ3, l3, y3, z3⟩, st3⟩ := Jvm.LawKit.callS X0 hx (y := (⟨"com/example/syncline/syncline/client/bench/Scatter", "mix", "(J)J"⟩ : MethodName)) hown (mvT hZ (hw _ (List.mem_of_getElem? (i := 39) rfl))) (mvT hZ (hw _ (List.mem_of_getElem? (i := 40) rfl))) (mvT hZ (hw _ (List.mem_of_getElem? (i := 7) rfl))) (mvT hZ (hw _ (List.mem_of_getElem? (i := 41) rfl))) (by decide) (backOf (W := 2) (rm8 l Z a0 hw [] (j5 + ((i7.toInt64) * (-7046029254386353131 : Int64))) h0 n0 Z0) hZ (hw _ (List.mem_of_getElem? (i := 41) rfl)) (hw _ (List.mem_of_getElem? (i := 7) rfl)) (by decide) (by decide)) (g := (mkF m 35 #[.val (.ref o0), s1, s2, .val (.long j3), .second, .val (.long j5), .second, .val (.int i7), .unset, .unset] [(.long (j5 + ((i7.toInt64) * (-7046029254386353131 : Int64)))), (.long j3)])) rfl (by rw [hml]; rfl) (argsL := [(.long (j5 + ((i7.toInt64) * (-7046029254386353131 : Int64))))]) (rest := [(.long j3)]) (lenOf pd_7_5 rfl) rfl (by show 2 * 0 + _ ≤ _; exact Nat.le_of_eq rfl) (hb hby d7_35) (fun _ _ => ⟨rfl, e0, (Nat.le_of_ble_eq_true rfl), (Nat.le_of_ble_eq_true rfl)⟩)
  dsimp only [Pt.U, Pt.locs, Pt.cells, Pt.slots] at X3 l3 y3 z3 st3 hQ3
  subst l3 y3 z3
  obtain ⟨rfl, N3q, q3⟩ := hQ3
  have N3 := Fr.app N0 N3q
  have K3 : Keep h0 T3.heap [] := by rw [q3]; exact Keep.refl _ _
  obtain ⟨T5, X5, e5, st5⟩ := getF X3 hx hZ hown (host := "") (Or.inl (hw _ (List.mem_of_getElem? (i := 27) rfl))) Via.refl rfl (F_halfMask_o0.keep K3 nin0) (g := (mkF m 39 #[.val (.ref o0), s1, s2, .val (.long j3), .second, .val (.long j5), .second, .val (.int i7), .unset, .unset] [(.ref o0), (.long (own_f8 (j5 + ((i7.toInt64) * (-7046029254386353131 : Int64))))), (.long j3)])) rfl rfl (hb hby d7_39)
  refine ⟨T5, _, _, X5, e5, N3, (by rw [q3]; exact Z0), q3, fun target kt => ?_⟩
  show Steps p.tables e below (T0.setTop (mkF m 18 #[.val (.ref o0), s1, s2, .val (.long j3), .second, .val (.long j5), .second, .val (.int i7), .unset, .unset] [])) _
  refine XS.iload X0.here hx rfl (hb hby d7_18) rfl ?_
  show Steps p.tables e below (T0.setTop (mkF m 20 #[.val (.ref o0), s1, s2, .val (.long j3), .second, .val (.long j5), .second, .val (.int i7), .unset, .unset] [(.int i7)])) _
  refine XS.iconst X0.here hx rfl (hb hby d7_20) ?_
  show Steps p.tables e below (T0.setTop (mkF m 21 #[.val (.ref o0), s1, s2, .val (.long j3), .second, .val (.long j5), .second, .val (.int i7), .unset, .unset] [(.int (4 : Int32)), (.int i7)])) _
  refine XS.icmpNo X0.here hx rfl (hb hby d7_21) rfl (tlt hc21).2.1 ?_
  show Steps p.tables e below (T0.setTop (mkF m 24 #[.val (.ref o0), s1, s2, .val (.long j3), .second, .val (.long j5), .second, .val (.int i7), .unset, .unset] [])) _
  refine XS.lloadN X0.here hx rfl (hb hby d7_24) rfl ?_
  show Steps p.tables e below (T0.setTop (mkF m 25 #[.val (.ref o0), s1, s2, .val (.long j3), .second, .val (.long j5), .second, .val (.int i7), .unset, .unset] [(.long j3)])) _
  refine XS.lload X0.here hx rfl (hb hby d7_25) rfl ?_
  show Steps p.tables e below (T0.setTop (mkF m 27 #[.val (.ref o0), s1, s2, .val (.long j3), .second, .val (.long j5), .second, .val (.int i7), .unset, .unset] [(.long j5), (.long j3)])) _
  refine XS.iload X0.here hx rfl (hb hby d7_27) rfl ?_
  show Steps p.tables e below (T0.setTop (mkF m 29 #[.val (.ref o0), s1, s2, .val (.long j3), .second, .val (.long j5), .second, .val (.int i7), .unset, .unset] [(.int i7), (.long j5), (.long j3)])) _
  refine XS.i2l X0.here hx rfl (hb hby d7_29) rfl ?_
  show Steps p.tables e below (T0.setTop (mkF m 30 #[.val (.ref o0), s1, s2, .val (.long j3), .second, .val (.long j5), .second, .val (.int i7), .unset, .unset] [(.long (i7.toInt64)), (.long j5), (.long j3)])) _
  refine X0.ldc2Long hx hown (mvT hZ (hw _ (List.mem_of_getElem? (i := 38) rfl))) (g := (mkF m 30 #[.val (.ref o0), s1, s2, .val (.long j3), .second, .val (.long j5), .second, .val (.int i7), .unset, .unset] [(.long (i7.toInt64)), (.long j5), (.long j3)])) rfl (hb hby d7_30) _ ?_
  show Steps p.tables e below (T0.setTop (mkF m 33 #[.val (.ref o0), s1, s2, .val (.long j3), .second, .val (.long j5), .second, .val (.int i7), .unset, .unset] [(.long (-7046029254386353131 : Int64)), (.long (i7.toInt64)), (.long j5), (.long j3)])) _
  refine XS.lmul X0.here hx rfl (hb hby d7_33) rfl ?_
  show Steps p.tables e below (T0.setTop (mkF m 34 #[.val (.ref o0), s1, s2, .val (.long j3), .second, .val (.long j5), .second, .val (.int i7), .unset, .unset] [(.long ((i7.toInt64) * (-7046029254386353131 : Int64))), (.long j5), (.long j3)])) _
  refine XS.ladd X0.here hx rfl (hb hby d7_34) rfl ?_
  show Steps p.tables e below (T0.setTop (mkF m 35 #[.val (.ref o0), s1, s2, .val (.long j3), .second, .val (.long j5), .second, .val (.int i7), .unset, .unset] [(.long (j5 + ((i7.toInt64) * (-7046029254386353131 : Int64)))), (.long j3)])) _
  refine st3 _ ?_
  show Steps p.tables e below (T3.setTop (mkF m 38 #[.val (.ref o0), s1, s2, .val (.long j3), .second, .val (.long j5), .second, .val (.int i7), .unset, .unset] [(.long (own_f8 (j5 + ((i7.toInt64) * (-7046029254386353131 : Int64))))), (.long j3)])) _
  refine XS.aloadN X3.here hx rfl (hb hby d7_38) rfl rfl ?_
  show Steps p.tables e below (T3.setTop (mkF m 39 #[.val (.ref o0), s1, s2, .val (.long j3), .second, .val (.long j5), .second, .val (.int i7), .unset, .unset] [(.ref o0), (.long (own_f8 (j5 + ((i7.toInt64) * (-7046029254386353131 : Int64))))), (.long j3)])) _
  refine st5 _ ?_
  show Steps p.tables e below (T5.setTop (mkF m 42 #[.val (.ref o0), s1, s2, .val (.long j3), .second, .val (.long j5), .second, .val (.int i7), .unset, .unset] [(.long w4), (.long (own_f8 (j5 + ((i7.toInt64) * (-7046029254386353131 : Int64))))), (.long j3)])) _
  refine XS.land X5.here hx rfl (hb hby d7_42) rfl ?_
  show Steps p.tables e below (T5.setTop (mkF m 43 #[.val (.ref o0), s1, s2, .val (.long j3), .second, .val (.long j5), .second, .val (.int i7), .unset, .unset] [(.long ((own_f8 (j5 + ((i7.toInt64) * (-7046029254386353131 : Int64)))) &&& w4)), (.long j3)])) _
  refine XS.lxor X5.here hx rfl (hb hby d7_43) rfl ?_
  show Steps p.tables e below (T5.setTop (mkF m 44 #[.val (.ref o0), s1, s2, .val (.long j3), .second, .val (.long j5), .second, .val (.int i7), .unset, .unset] [(.long (j3 ^^^ ((own_f8 (j5 + ((i7.toInt64) * (-7046029254386353131 : Int64)))) &&& w4)))])) _
  refine XS.lstore X5.here hx rfl (hb hby d7_44) rfl (l' := #[.val (.ref o0), s1, s2, .val (.long j3), .second, .val (.long j5), .second, .val (.int i7), .val (.long (j3 ^^^ ((own_f8 (j5 + ((i7.toInt64) * (-7046029254386353131 : Int64)))) &&& w4))), .second]) rfl ?_
  show Steps p.tables e below (T5.setTop (mkF m 46 #[.val (.ref o0), s1, s2, .val (.long j3), .second, .val (.long j5), .second, .val (.int i7), .val (.long (j3 ^^^ ((own_f8 (j5 + ((i7.toInt64) * (-7046029254386353131 : Int64)))) &&& w4))), .second] [])) _
  refine XS.lload X5.here hx rfl (hb hby d7_46) rfl ?_
  show Steps p.tables e below (T5.setTop (mkF m 48 #[.val (.ref o0), s1, s2, .val (.long j3), .second, .val (.long j5), .second, .val (.int i7), .val (.long (j3 ^^^ ((own_f8 (j5 + ((i7.toInt64) * (-7046029254386353131 : Int64)))) &&& w4))), .second] [(.long j5)])) _
  refine XS.lstoreN X5.here hx rfl (hb hby d7_48) rfl (l' := #[.val (.ref o0), s1, s2, .val (.long j5), .second, .val (.long j5), .second, .val (.int i7), .val (.long (j3 ^^^ ((own_f8 (j5 + ((i7.toInt64) * (-7046029254386353131 : Int64)))) &&& w4))), .second]) rfl ?_
  show Steps p.tables e below (T5.setTop (mkF m 49 #[.val (.ref o0), s1, s2, .val (.long j5), .second, .val (.long j5), .second, .val (.int i7), .val (.long (j3 ^^^ ((own_f8 (j5 + ((i7.toInt64) * (-7046029254386353131 : Int64)))) &&& w4))), .second] [])) _
  refine XS.lload X5.here hx rfl (hb hby d7_49) rfl ?_
  show Steps p.tables e below (T5.setTop (mkF m 51 #[.val (.ref o0), s1, s2, .val (.long j5), .second, .val (.long j5), .second, .val (.int i7), .val (.long (j3 ^^^ ((own_f8 (j5 + ((i7.toInt64) * (-7046029254386353131 : Int64)))) &&& w4))), .second] [(.long (j3 ^^^ ((own_f8 (j5 + ((i7.toInt64) * (-7046029254386353131 : Int64)))) &&& w4)))])) _
  refine XS.lstore X5.here hx rfl (hb hby d7_51) rfl (l' := #[.val (.ref o0), s1, s2, .val (.long j5), .second, .val (.long (j3 ^^^ ((own_f8 (j5 + ((i7.toInt64) * (-7046029254386353131 : Int64)))) &&& w4))), .second, .val (.int i7), .val (.long (j3 ^^^ ((own_f8 (j5 + ((i7.toInt64) * (-7046029254386353131 : Int64)))) &&& w4))), .second]) rfl ?_
  show Steps p.tables e below (T5.setTop (mkF m 53 #[.val (.ref o0), s1, s2, .val (.long j5), .second, .val (.long (j3 ^^^ ((own_f8 (j5 + ((i7.toInt64) * (-7046029254386353131 : Int64)))) &&& w4))), .second, .val (.int i7), .val (.long (j3 ^^^ ((own_f8 (j5 + ((i7.toInt64) * (-7046029254386353131 : Int64)))) &&& w4))), .second] [])) _
  refine XS.iinc X5.here hx rfl (hb hby d7_53) rfl (l' := #[.val (.ref o0), s1, s2, .val (.long j5), .second, .val (.long (j3 ^^^ ((own_f8 (j5 + ((i7.toInt64) * (-7046029254386353131 : Int64)))) &&& w4))), .second, .val (.int (i7 + (1 : Int32))), .val (.long (j3 ^^^ ((own_f8 (j5 + ((i7.toInt64) * (-7046029254386353131 : Int64)))) &&& w4))), .second]) rfl ?_
  show Steps p.tables e below (T5.setTop (mkF m 56 #[.val (.ref o0), s1, s2, .val (.long j5), .second, .val (.long (j3 ^^^ ((own_f8 (j5 + ((i7.toInt64) * (-7046029254386353131 : Int64)))) &&& w4))), .second, .val (.int (i7 + (1 : Int32))), .val (.long (j3 ^^^ ((own_f8 (j5 + ((i7.toInt64) * (-7046029254386353131 : Int64)))) &&& w4))), .second] [])) _
  refine XS.goto X5.here hx rfl (pc0 := 56) (pc' := 18) rfl (hb hby d7_56) (by decide) (by decide) ?_
  exact kt
set_option maxRecDepth 65536 in
set_option maxHeartbeats 40000000 in
theorem own_tb {p : Program} {l : Launch} {e : Env} {s : State} {m : MethodId} {args : Array Value} {below : List Frame} {meth : Method} {c : Code} {T0 : State} {locs : List Loc} {Z : State} {a0 : Array Value} {h0 : Heap} {n0 : Nat} (o0 : Addr) (s1 : Slot) (s2 : Slot) (j3 : Int64) (j5 : Int64) (i7 : Int32) (w4 : Int64) (z8 : Int64)
    (X0 : Stand p l e ({ frames := 1, cells := 0, slots := 0, locals := 17 } : Room) s m args below meth c T0 locs 0 0) (hx : p.tables.exec = Jvm.exec) (hZ : Z.Warmed39 s.vm) (hw : ∀ d ∈ tables_1, d.before a0 Z = true) (hby : c.code = prog_29_method_3_code) (hml : c.maxLocals = 10) (hown : s.vm.findClass "com/example/syncline/syncline/client/bench/Scatter" = some m.cls) (e0 : T0.heap = h0) (N0 : Fr n0 locs) (Z0 : n0 ≤ h0.size) (F_halfMask_o0 : Fld Z h0 o0 "com/example/syncline/syncline/client/bench/Scatter" "halfMask" "J" (.long w4)) (hc21 : i7 < (4 : Int32)) :
    ∃ (T' : State) (h' : Heap) (locs' : List Loc), Stand p l e ({ frames := 1, cells := 0, slots := 0, locals := 17 } : Room) s m args below meth c T' locs' 0 0 ∧ T'.heap = h' ∧ Fr n0 locs' ∧ n0 ≤ h'.size ∧ (h' = h0) ∧
      ∀ target, Steps p.tables e below (T'.setTop (mkF m 18 #[.val (.ref o0), s1, s2, .val (.long j5), .second, .val (.long (j3 ^^^ ((own_f8 (j5 + ((i7.toInt64) * (-7046029254386353131 : Int64)))) &&& w4))), .second, .val (.int (i7 + (1 : Int32))), .val (.long (j3 ^^^ ((own_f8 (j5 + ((i7.toInt64) * (-7046029254386353131 : Int64)))) &&& w4))), .second] [])) target → Steps p.tables e below (T0.setTop (mkF m 18 #[.val (.ref o0), s1, s2, .val (.long j3), .second, .val (.long j5), .second, .val (.int i7), (.val (.long z8)), .second] [])) target := by
  obtain ⟨_, _, ⟨T3, L3, k3, n3⟩, -, X3, ⟨Lc3, hQ3, l3, y3, z3⟩, st3⟩ := Jvm.LawKit.callS X0 hx (y := (⟨"com/example/syncline/syncline/client/bench/Scatter", "mix", "(J)J"⟩ : MethodName)) hown (mvT hZ (hw _ (List.mem_of_getElem? (i := 39) rfl))) (mvT hZ (hw _ (List.mem_of_getElem? (i := 40) rfl))) (mvT hZ (hw _ (List.mem_of_getElem? (i := 7) rfl))) (mvT hZ (hw _ (List.mem_of_getElem? (i := 41) rfl))) (by decide) (backOf (W := 2) (rm8 l Z a0 hw [] (j5 + ((i7.toInt64) * (-7046029254386353131 : Int64))) h0 n0 Z0) hZ (hw _ (List.mem_of_getElem? (i := 41) rfl)) (hw _ (List.mem_of_getElem? (i := 7) rfl)) (by decide) (by decide)) (g := (mkF m 35 #[.val (.ref o0), s1, s2, .val (.long j3), .second, .val (.long j5), .second, .val (.int i7), (.val (.long z8)), .second] [(.long (j5 + ((i7.toInt64) * (-7046029254386353131 : Int64)))), (.long j3)])) rfl (by rw [hml]; rfl) (argsL := [(.long (j5 + ((i7.toInt64) * (-7046029254386353131 : Int64))))]) (rest := [(.long j3)]) (lenOf pd_7_5 rfl) rfl (by show 2 * 0 + _ ≤ _; exact Nat.le_of_eq rfl) (hb hby d7_35) (fun _ _ => ⟨rfl, e0, (Nat.le_of_ble_eq_true rfl), (Nat.le_of_ble_eq_true rfl)⟩)
  dsimp only [Pt.U, Pt.locs, Pt.cells, Pt.slots] at X3 l3 y3 z3 st3 hQ3
  subst l3 y3 z3
  obtain ⟨rfl, N3q, q3⟩ := hQ3
  have N3 := Fr.app N0 N3q
  have K3 : Keep h0 T3.heap [] := by rw [q3]; exact Keep.refl _ _
  obtain ⟨T5, X5, e5, st5⟩ := getF X3 hx hZ hown (host := "") (Or.inl (hw _ (List.mem_of_getElem? (i := 27) rfl))) Via.refl rfl (F_halfMask_o0.keep K3 nin0) (g := (mkF m 39 #[.val (.ref o0), s1, s2, .val (.long j3), .second, .val (.long j5), .second, .val (.int i7), (.val (.long z8)), .second] [(.ref o0), (.long (own_f8 (j5 + ((i7.toInt64) * (-7046029254386353131 : Int64))))), (.long j3)])) rfl rfl (hb hby d7_39)
  refine ⟨T5, _, _, X5, e5, N3, (by rw [q3]; exact Z0), q3, fun target kt => ?_⟩
  show Steps p.tables e below (T0.setTop (mkF m 18 #[.val (.ref o0), s1, s2, .val (.long j3), .second, .val (.long j5), .second, .val (.int i7), (.val (.long z8)), .second] [])) _
  refine XS.iload X0.here hx rfl (hb hby d7_18) rfl ?_
  show Steps p.tables e below (T0.setTop (mkF m 20 #[.val (.ref o0), s1, s2, .val (.long j3), .second, .val (.long j5), .second, .val (.int i7), (.val (.long z8)), .second] [(.int i7)])) _
  refine XS.iconst X0.here hx rfl (hb hby d7_20) ?_
  show Steps p.tables e below (T0.setTop (mkF m 21 #[.val (.ref o0), s1, s2, .val (.long j3), .second, .val (.long j5), .second, .val (.int i7), (.val (.long z8)), .second] [(.int (4 : Int32)), (.int i7)])) _
  refine XS.icmpNo X0.here hx rfl (hb hby d7_21) rfl (tlt hc21).2.1 ?_
  show Steps p.tables e below (T0.setTop (mkF m 24 #[.val (.ref o0), s1, s2, .val (.long j3), .second, .val (.long j5), .second, .val (.int i7), (.val (.long z8)), .second] [])) _
  refine XS.lloadN X0.here hx rfl (hb hby d7_24) rfl ?_
  show Steps p.tables e below (T0.setTop (mkF m 25 #[.val (.ref o0), s1, s2, .val (.long j3), .second, .val (.long j5), .second, .val (.int i7), (.val (.long z8)), .second] [(.long j3)])) _
  refine XS.lload X0.here hx rfl (hb hby d7_25) rfl ?_
  show Steps p.tables e below (T0.setTop (mkF m 27 #[.val (.ref o0), s1, s2, .val (.long j3), .second, .val (.long j5), .second, .val (.int i7), (.val (.long z8)), .second] [(.long j5), (.long j3)])) _
  refine XS.iload X0.here hx rfl (hb hby d7_27) rfl ?_
  show Steps p.tables e below (T0.setTop (mkF m 29 #[.val (.ref o0), s1, s2, .val (.long j3), .second, .val (.long j5), .second, .val (.int i7), (.val (.long z8)), .second] [(.int i7), (.long j5), (.long j3)])) _
  refine XS.i2l X0.here hx rfl (hb hby d7_29) rfl ?_
  show Steps p.tables e below (T0.setTop (mkF m 30 #[.val (.ref o0), s1, s2, .val (.long j3), .second, .val (.long j5), .second, .val (.int i7), (.val (.long z8)), .second] [(.long (i7.toInt64)), (.long j5), (.long j3)])) _
  refine X0.ldc2Long hx hown (mvT hZ (hw _ (List.mem_of_getElem? (i := 38) rfl))) (g := (mkF m 30 #[.val (.ref o0), s1, s2, .val (.long j3), .second, .val (.long j5), .second, .val (.int i7), (.val (.long z8)), .second] [(.long (i7.toInt64)), (.long j5), (.long j3)])) rfl (hb hby d7_30) _ ?_
  show Steps p.tables e below (T0.setTop (mkF m 33 #[.val (.ref o0), s1, s2, .val (.long j3), .second, .val (.long j5), .second, .val (.int i7), (.val (.long z8)), .second] [(.long (-7046029254386353131 : Int64)), (.long (i7.toInt64)), (.long j5), (.long j3)])) _
  refine XS.lmul X0.here hx rfl (hb hby d7_33) rfl ?_
  show Steps p.tables e below (T0.setTop (mkF m 34 #[.val (.ref o0), s1, s2, .val (.long j3), .second, .val (.long j5), .second, .val (.int i7), (.val (.long z8)), .second] [(.long ((i7.toInt64) * (-7046029254386353131 : Int64))), (.long j5), (.long j3)])) _
  refine XS.ladd X0.here hx rfl (hb hby d7_34) rfl ?_
  show Steps p.tables e below (T0.setTop (mkF m 35 #[.val (.ref o0), s1, s2, .val (.long j3), .second, .val (.long j5), .second, .val (.int i7), (.val (.long z8)), .second] [(.long (j5 + ((i7.toInt64) * (-7046029254386353131 : Int64)))), (.long j3)])) _
  refine st3 _ ?_
  show Steps p.tables e below (T3.setTop (mkF m 38 #[.val (.ref o0), s1, s2, .val (.long j3), .second, .val (.long j5), .second, .val (.int i7), (.val (.long z8)), .second] [(.long (own_f8 (j5 + ((i7.toInt64) * (-7046029254386353131 : Int64))))), (.long j3)])) _
  refine XS.aloadN X3.here hx rfl (hb hby d7_38) rfl rfl ?_
  show Steps p.tables e below (T3.setTop (mkF m 39 #[.val (.ref o0), s1, s2, .val (.long j3), .second, .val (.long j5), .second, .val (.int i7), (.val (.long z8)), .second] [(.ref o0), (.long (own_f8 (j5 + ((i7.toInt64) * (-7046029254386353131 : Int64))))), (.long j3)])) _
  refine st5 _ ?_
  show Steps p.tables e below (T5.setTop (mkF m 42 #[.val (.ref o0), s1, s2, .val (.long j3), .second, .val (.long j5), .second, .val (.int i7), (.val (.long z8)), .second] [(.long w4), (.long (own_f8 (j5 + ((i7.toInt64) * (-7046029254386353131 : Int64))))), (.long j3)])) _
  refine XS.land X5.here hx rfl (hb hby d7_42) rfl ?_
  show Steps p.tables e below (T5.setTop (mkF m 43 #[.val (.ref o0), s1, s2, .val (.long j3), .second, .val (.long j5), .second, .val (.int i7), (.val (.long z8)), .second] [(.long ((own_f8 (j5 + ((i7.toInt64) * (-7046029254386353131 : Int64)))) &&& w4)), (.long j3)])) _
  refine XS.lxor X5.here hx rfl (hb hby d7_43) rfl ?_
  show Steps p.tables e below (T5.setTop (mkF m 44 #[.val (.ref o0), s1, s2, .val (.long j3), .second, .val (.long j5), .second, .val (.int i7), (.val (.long z8)), .second] [(.long (j3 ^^^ ((own_f8 (j5 + ((i7.toInt64) * (-7046029254386353131 : Int64)))) &&& w4)))])) _
  refine XS.lstore X5.here hx rfl (hb hby d7_44) rfl (l' := #[.val (.ref o0), s1, s2, .val (.long j3), .second, .val (.long j5), .second, .val (.int i7), .val (.long (j3 ^^^ ((own_f8 (j5 + ((i7.toInt64) * (-7046029254386353131 : Int64)))) &&& w4))), .second]) rfl ?_
  show Steps p.tables e below (T5.setTop (mkF m 46 #[.val (.ref o0), s1, s2, .val (.long j3), .second, .val (.long j5), .second, .val (.int i7), .val (.long (j3 ^^^ ((own_f8 (j5 + ((i7.toInt64) * (-7046029254386353131 : Int64)))) &&& w4))), .second] [])) _
  refine XS.lload X5.here hx rfl (hb hby d7_46) rfl ?_
  show Steps p.tables e below (T5.setTop (mkF m 48 #[.val (.ref o0), s1, s2, .val (.long j3), .second, .val (.long j5), .second, .val (.int i7), .val (.long (j3 ^^^ ((own_f8 (j5 + ((i7.toInt64) * (-7046029254386353131 : Int64)))) &&& w4))), .second] [(.long j5)])) _
  refine XS.lstoreN X5.here hx rfl (hb hby d7_48) rfl (l' := #[.val (.ref o0), s1, s2, .val (.long j5), .second, .val (.long j5), .second, .val (.int i7), .val (.long (j3 ^^^ ((own_f8 (j5 + ((i7.toInt64) * (-7046029254386353131 : Int64)))) &&& w4))), .second]) rfl ?_
  show Steps p.tables e below (T5.setTop (mkF m 49 #[.val (.ref o0), s1, s2, .val (.long j5), .second, .val (.long j5), .second, .val (.int i7), .val (.long (j3 ^^^ ((own_f8 (j5 + ((i7.toInt64) * (-7046029254386353131 : Int64)))) &&& w4))), .second] [])) _
  refine XS.lload X5.here hx rfl (hb hby d7_49) rfl ?_
  show Steps p.tables e below (T5.setTop (mkF m 51 #[.val (.ref o0), s1, s2, .val (.long j5), .second, .val (.long j5), .second, .val (.int i7), .val (.long (j3 ^^^ ((own_f8 (j5 + ((i7.toInt64) * (-7046029254386353131 : Int64)))) &&& w4))), .second] [(.long (j3 ^^^ ((own_f8 (j5 + ((i7.toInt64) * (-7046029254386353131 : Int64)))) &&& w4)))])) _
  refine XS.lstore X5.here hx rfl (hb hby d7_51) rfl (l' := #[.val (.ref o0), s1, s2, .val (.long j5), .second, .val (.long (j3 ^^^ ((own_f8 (j5 + ((i7.toInt64) * (-7046029254386353131 : Int64)))) &&& w4))), .second, .val (.int i7), .val (.long (j3 ^^^ ((own_f8 (j5 + ((i7.toInt64) * (-7046029254386353131 : Int64)))) &&& w4))), .second]) rfl ?_
  show Steps p.tables e below (T5.setTop (mkF m 53 #[.val (.ref o0), s1, s2, .val (.long j5), .second, .val (.long (j3 ^^^ ((own_f8 (j5 + ((i7.toInt64) * (-7046029254386353131 : Int64)))) &&& w4))), .second, .val (.int i7), .val (.long (j3 ^^^ ((own_f8 (j5 + ((i7.toInt64) * (-7046029254386353131 : Int64)))) &&& w4))), .second] [])) _
  refine XS.iinc X5.here hx rfl (hb hby d7_53) rfl (l' := #[.val (.ref o0), s1, s2, .val (.long j5), .second, .val (.long (j3 ^^^ ((own_f8 (j5 + ((i7.toInt64) * (-7046029254386353131 : Int64)))) &&& w4))), .second, .val (.int (i7 + (1 : Int32))), .val (.long (j3 ^^^ ((own_f8 (j5 + ((i7.toInt64) * (-7046029254386353131 : Int64)))) &&& w4))), .second]) rfl ?_
  show Steps p.tables e below (T5.setTop (mkF m 56 #[.val (.ref o0), s1, s2, .val (.long j5), .second, .val (.long (j3 ^^^ ((own_f8 (j5 + ((i7.toInt64) * (-7046029254386353131 : Int64)))) &&& w4))), .second, .val (.int (i7 + (1 : Int32))), .val (.long (j3 ^^^ ((own_f8 (j5 + ((i7.toInt64) * (-7046029254386353131 : Int64)))) &&& w4))), .second] [])) _
  refine XS.goto X5.here hx rfl (pc0 := 56) (pc' := 18) rfl (hb hby d7_56) (by decide) (by decide) ?_
  exact kt
set_option maxRecDepth 65536 in
set_option maxHeartbeats 40000000 in
theorem tn7_18_59 {p : Program} {l : Launch} {e : Env} {R : Room} {s : State} {m : MethodId} {args : Array Value} {below : List Frame} {meth : Method} {c : Code} {T0 : State} {locs : List Loc} {cells slots : Nat} {Z : State} {a0 : Array Value} {h0 : Heap} (s0 : Slot) (s1 : Slot) (s2 : Slot) (s3 : Slot) (s4 : Slot) (s5 : Slot) (s6 : Slot) (i7 : Int32) (s8 : Slot) (s9 : Slot)
    (X0 : Stand p l e R s m args below meth c T0 locs cells slots) (hx : p.tables.exec = Jvm.exec) (hZ : Z.Warmed39 s.vm) (hw : ∀ d ∈ tables_1, d.before a0 Z = true) (hby : c.code = prog_29_method_3_code) (hml : c.maxLocals = 10) (hown : s.vm.findClass "com/example/syncline/syncline/client/bench/Scatter" = some m.cls) (e0 : T0.heap = h0) (hc21 : ¬ (i7 < (4 : Int32))) :
    ∃ (T' : State), Stand p l e R s m args below meth c T' locs cells slots ∧ T'.heap = h0 ∧
      ∀ target, Steps p.tables e below (T'.setTop (mkF m 59 #[s0, s1, s2, s3, s4, s5, s6, .val (.int i7), s8, s9] [])) target → Steps p.tables e below (T0.setTop (mkF m 18 #[s0, s1, s2, s3, s4, s5, s6, .val (.int i7), s8, s9] [])) target := by

  refine ⟨T0, X0, e0, fun target kt => ?_⟩
  show Steps p.tables e below (T0.setTop (mkF m 18 #[s0, s1, s2, s3, s4, s5, s6, .val (.int i7), s8, s9] [])) _
  refine XS.iload X0.here hx rfl (hb hby d7_18) rfl ?_
  show Steps p.tables e below (T0.setTop (mkF m 20 #[s0, s1, s2, s3, s4, s5, s6, .val (.int i7), s8, s9] [(.int i7)])) _
  refine XS.iconst X0.here hx rfl (hb hby d7_20) ?_
  show Steps p.tables e below (T0.setTop (mkF m 21 #[s0, s1, s2, s3, s4, s5, s6, .val (.int i7), s8, s9] [(.int (4 : Int32)), (.int i7)])) _
  refine XS.icmpYes X0.here hx rfl (pc0 := 21) (pc' := 59) rfl (hb hby d7_21) rfl (flt hc21).2.1 (by decide) (by decide) ?_
  exact kt
theorem d7_59 : decode prog_29_method_3_code 59 = .ok (.lload_n 3, 1) := by decide +kernel
theorem d7_60 : decode prog_29_method_3_code 60 = .ok (.aload_n 0, 1) := by decide +kernel
theorem d7_61 : decode prog_29_method_3_code 61 = .ok (.getfield 34, 3) := by decide +kernel
theorem d7_64 : decode prog_29_method_3_code 64 = .ok (.lshl, 1) := by decide +kernel
theorem d7_65 : decode prog_29_method_3_code 65 = .ok (.lload 5, 2) := by decide +kernel
theorem d7_67 : decode prog_29_method_3_code 67 = .ok (.lor, 1) := by decide +kernel
set_option maxRecDepth 65536 in
set_option maxHeartbeats 40000000 in
theorem tn7_59_68 {p : Program} {l : Launch} {e : Env} {R : Room} {s : State} {m : MethodId} {args : Array Value} {below : List Frame} {meth : Method} {c : Code} {T0 : State} {locs : List Loc} {cells slots : Nat} {Z : State} {a0 : Array Value} {h0 : Heap} (o0 : Addr) (s1 : Slot) (s2 : Slot) (j3 : Int64) (j5 : Int64) (s7 : Slot) (s8 : Slot) (s9 : Slot) (w3 : Int32)
    (X0 : Stand p l e R s m args below meth c T0 locs cells slots) (hx : p.tables.exec = Jvm.exec) (hZ : Z.Warmed39 s.vm) (hw : ∀ d ∈ tables_1, d.before a0 Z = true) (hby : c.code = prog_29_method_3_code) (hml : c.maxLocals = 10) (hown : s.vm.findClass "com/example/syncline/syncline/client/bench/Scatter" = some m.cls) (e0 : T0.heap = h0) (F_halfBits_o0 : Fld Z h0 o0 "com/example/syncline/syncline/client/bench/Scatter" "halfBits" "I" (.int w3)) :
    ∃ (T' : State), Stand p l e R s m args below meth c T' locs cells slots ∧ T'.heap = h0 ∧
      ∀ target, Steps p.tables e below (T'.setTop (mkF m 68 #[.val (.ref o0), s1, s2, .val (.long j3), .second, .val (.long j5), .second, s7, s8, s9] [(.long ((j3 <<< (w3 &&& 0x3f).toInt64) ||| j5))])) target → Steps p.tables e below (T0.setTop (mkF m 59 #[.val (.ref o0), s1, s2, .val (.long j3), .second, .val (.long j5), .second, s7, s8, s9] [])) target := by
  obtain ⟨T4, X4, e4, st4⟩ := getF X0 hx hZ hown (host := "") (Or.inl (hw _ (List.mem_of_getElem? (i := 25) rfl))) Via.refl e0 F_halfBits_o0 (g := (mkF m 61 #[.val (.ref o0), s1, s2, .val (.long j3), .second, .val (.long j5), .second, s7, s8, s9] [(.ref o0), (.long j3)])) rfl rfl (hb hby d7_61)
  refine ⟨T4, X4, e4, fun target kt => ?_⟩
  show Steps p.tables e below (T0.setTop (mkF m 59 #[.val (.ref o0), s1, s2, .val (.long j3), .second, .val (.long j5), .second, s7, s8, s9] [])) _
  refine XS.lloadN X0.here hx rfl (hb hby d7_59) rfl ?_
  show Steps p.tables e below (T0.setTop (mkF m 60 #[.val (.ref o0), s1, s2, .val (.long j3), .second, .val (.long j5), .second, s7, s8, s9] [(.long j3)])) _
  refine XS.aloadN X0.here hx rfl (hb hby d7_60) rfl rfl ?_
  show Steps p.tables e below (T0.setTop (mkF m 61 #[.val (.ref o0), s1, s2, .val (.long j3), .second, .val (.long j5), .second, s7, s8, s9] [(.ref o0), (.long j3)])) _
  refine st4 _ ?_
  show Steps p.tables e below (T4.setTop (mkF m 64 #[.val (.ref o0), s1, s2, .val (.long j3), .second, .val (.long j5), .second, s7, s8, s9] [(.int w3), (.long j3)])) _
  refine XS.lshl X4.here hx rfl (hb hby d7_64) rfl ?_
  show Steps p.tables e below (T4.setTop (mkF m 65 #[.val (.ref o0), s1, s2, .val (.long j3), .second, .val (.long j5), .second, s7, s8, s9] [(.long (j3 <<< (w3 &&& 0x3f).toInt64))])) _
  refine XS.lload X4.here hx rfl (hb hby d7_65) rfl ?_
  show Steps p.tables e below (T4.setTop (mkF m 67 #[.val (.ref o0), s1, s2, .val (.long j3), .second, .val (.long j5), .second, s7, s8, s9] [(.long j5), (.long (j3 <<< (w3 &&& 0x3f).toInt64))])) _
  refine XS.lor X4.here hx rfl (hb hby d7_67) rfl ?_
  exact kt
theorem d7_68 : decode prog_29_method_3_code 68 = .ok (.lreturn, 1) := by decide +kernel
theorem pn_7 : plainName "com/example/syncline/syncline/client/bench/Scatter" = true := by first | (simp [plainName, overriddenIn]; done) | decide +kernel
theorem ef_7 (m : MethodId) (x0 : Addr) (x1 : Int64) : entryFrame m #[(.ref x0), (.long x1)] 10 = mkF m 0 #[.val (.ref x0), .val (.long x1), .second, .unset, .unset, .unset, .unset, .unset, .unset, .unset] [] := by first | (simp [entryFrame, mkF, argsToLocals, Value.category]; done) | rfl

set_option maxRecDepth 65536 in
set_option maxHeartbeats 40000000 in
theorem rm7 (l : Launch) (Z : State) (a0 : Array Value) (hw : ∀ d ∈ tables_1, d.before a0 Z = true) (ws : List Jvm.Cond) (a1 : Addr) (q2 : Int64) (hB : Int32) (h0 : Heap) (n0 : Nat) (Z0 : n0 ≤ h0.size) (Fb : Fld Z h0 a1 "com/example/syncline/syncline/client/bench/Scatter" "halfBits" "I" (.int hB)) (Fm : Fld Z h0 a1 "com/example/syncline/syncline/client/bench/Scatter" "halfMask" "J" (.long (own_hm hB))) :
    MetFree l (⟨"com/example/syncline/syncline/client/bench/Scatter", "permute", "(J)J"⟩ : MethodName) (head1 (Jvm.Cond.code (⟨"com/example/syncline/syncline/client/bench/Scatter", "permute", "(J)J"⟩ : MethodName) prog_29_method_3_code 10 (some .long) :: ws) ({ frames := 1, cells := 0, slots := 0, locals := 17 } : Room)) (fun a U => a = #[(.ref a1), (.long q2)] ∧ Z.Warmed39 U.vm ∧ U.heap = h0) (fun _ _ _ _ _ => True) (fun _ U o U' => ∃ v L, o = .returned v ∧ own_Qr h0 n0 (.long (own_P (own_F (own_hm hB)) hB q2)) v U'.heap L ∧ FrameEnd U o U' L ({ frames := 1, cells := 0, slots := 0, locals := 17 } : Room).cells ({ frames := 1, cells := 0, slots := 0, locals := 17 } : Room).slots) := by
  refine MetFree.of_bodySF (plainFor_of_name pn_7) hisR ?_
  intro p e s m args below meth c s₁ Bd hml0 hP hK
  obtain ⟨rfl, hZ, hh⟩ := hP
  have hx := Bd.exec
  have hby := Bd.bytes
  have hml : c.maxLocals = 10 := hml0
  have hown : s.vm.findClass "com/example/syncline/syncline/client/bench/Scatter" = some m.cls := findClass_of_methodNamed Bd.named
  have X0 : Stand p l e ({ frames := 1, cells := 0, slots := 0, locals := 17 } : Room) s m #[(.ref a1), (.long q2)] below meth c s₁ [] 0 0 := Stand.of_body Bd
  have e0 : s₁.heap = h0 := by rw [← hh, Bd.state]; rfl
  have N0 := Fr.nil n0
  have pre0 : ∀ t, Steps p.tables e below (s₁.setTop (mkF m 0 #[.val (.ref a1), .val (.long q2), .second, .unset, .unset, .unset, .unset, .unset, .unset, .unset] [])) t → Steps p.tables e below (s₁.setTop (entryFrame m #[(.ref a1), (.long q2)] 10)) t := fun t k => castTop (ef_7 m a1 q2) k
  obtain ⟨T1, X1, e1, st1⟩ := tn7_0_18 a1 q2 hB (own_hm hB) X0 hx hZ hw hby hml hown e0 Fb Fm One.u
  obtain ⟨x0, hx0⟩ : ∃ y : Int64 × Int64, y = (own_shr q2 hB, q2 &&& own_hm hB) := ⟨_, rfl⟩
  have a1' : ∀ target, Steps p.tables e below (T1.setTop (mkF m 18 #[.val (.ref a1), .val (.long q2), .second, .val (.long x0.1), .second, .val (.long x0.2), .second, .val (.int (0 : Int32)), .unset, .unset] [])) target → Steps p.tables e below (s₁.setTop (mkF m 0 #[.val (.ref a1), .val (.long q2), .second, .unset, .unset, .unset, .unset, .unset, .unset, .unset] [])) target := by
    subst hx0; exact st1
  obtain ⟨h1, eh1⟩ : ∃ h, h = h0 := ⟨_, rfl⟩
  rw [← eh1] at e1
  have N1 := N0
  have Z1 : n0 ≤ h1.size := by rw [eh1]; exact Z0
  have Fm1 : Fld Z h1 a1 "com/example/syncline/syncline/client/bench/Scatter" "halfMask" "J" (.long (own_hm hB)) := by rw [eh1]; exact Fm
  have Fb1 : Fld Z h1 a1 "com/example/syncline/syncline/client/bench/Scatter" "halfBits" "I" (.int hB) := by rw [eh1]; exact Fb
  obtain ⟨x1, hx1⟩ : ∃ y, y = own_rd (own_F (own_hm hB)) 0 x0 := ⟨_, rfl⟩
  obtain ⟨T2, h2, l2, X2, e2, N2, Z2, q2_, st2⟩ := own_ta a1 (.val (.long q2)) .second x0.1 x0.2 (0 : Int32) (own_hm hB) X1 hx hZ hw hby hml hown e1 N1 Z1 Fm1 (by decide)
  have Fm2 : Fld Z h2 a1 "com/example/syncline/syncline/client/bench/Scatter" "halfMask" "J" (.long (own_hm hB)) := by rw [q2_]; exact Fm1
  have Fb2 : Fld Z h2 a1 "com/example/syncline/syncline/client/bench/Scatter" "halfBits" "I" (.int hB) := by rw [q2_]; exact Fb1
  have a2 : ∀ target, Steps p.tables e below (T2.setTop (mkF m 18 #[.val (.ref a1), .val (.long q2), .second, .val (.long x1.1), .second, .val (.long x1.2), .second, .val (.int ((0 : Int32) + (1 : Int32))), .val (.long x1.2), .second] [])) target → Steps p.tables e below (T1.setTop (mkF m 18 #[.val (.ref a1), .val (.long q2), .second, .val (.long x0.1), .second, .val (.long x0.2), .second, .val (.int (0 : Int32)), .unset, .unset] [])) target := by
    subst hx1; exact st2
  obtain ⟨x2, hx2⟩ : ∃ y, y = own_rd (own_F (own_hm hB)) 1 x1 := ⟨_, rfl⟩
  obtain ⟨T3, h3, l3, X3, e3, N3, Z3, q3, st3⟩ := own_tb a1 (.val (.long q2)) .second x1.1 x1.2 ((0 : Int32) + (1 : Int32)) (own_hm hB) x1.2 X2 hx hZ hw hby hml hown e2 N2 Z2 Fm2 (by decide)
  have Fm3 : Fld Z h3 a1 "com/example/syncline/syncline/client/bench/Scatter" "halfMask" "J" (.long (own_hm hB)) := by rw [q3]; exact Fm2
  have Fb3 : Fld Z h3 a1 "com/example/syncline/syncline/client/bench/Scatter" "halfBits" "I" (.int hB) := by rw [q3]; exact Fb2
  have a3 : ∀ target, Steps p.tables e below (T3.setTop (mkF m 18 #[.val (.ref a1), .val (.long q2), .second, .val (.long x2.1), .second, .val (.long x2.2), .second, .val (.int (((0 : Int32) + (1 : Int32)) + (1 : Int32))), .val (.long x2.2), .second] [])) target → Steps p.tables e below (T2.setTop (mkF m 18 #[.val (.ref a1), .val (.long q2), .second, .val (.long x1.1), .second, .val (.long x1.2), .second, .val (.int ((0 : Int32) + (1 : Int32))), .val (.long x1.2), .second] [])) target := by
    subst hx2; exact st3
  obtain ⟨x3, hx3⟩ : ∃ y, y = own_rd (own_F (own_hm hB)) 2 x2 := ⟨_, rfl⟩
  obtain ⟨T4, h4, l4, X4, e4, N4, Z4, q4, st4⟩ := own_tb a1 (.val (.long q2)) .second x2.1 x2.2 (((0 : Int32) + (1 : Int32)) + (1 : Int32)) (own_hm hB) x2.2 X3 hx hZ hw hby hml hown e3 N3 Z3 Fm3 (by decide)
  have Fm4 : Fld Z h4 a1 "com/example/syncline/syncline/client/bench/Scatter" "halfMask" "J" (.long (own_hm hB)) := by rw [q4]; exact Fm3
  have Fb4 : Fld Z h4 a1 "com/example/syncline/syncline/client/bench/Scatter" "halfBits" "I" (.int hB) := by rw [q4]; exact Fb3
  have a4 : ∀ target, Steps p.tables e below (T4.setTop (mkF m 18 #[.val (.ref a1), .val (.long q2), .second, .val (.long x3.1), .second, .val (.long x3.2), .second, .val (.int ((((0 : Int32) + (1 : Int32)) + (1 : Int32)) + (1 : Int32))), .val (.long x3.2), .second] [])) target → Steps p.tables e below (T3.setTop (mkF m 18 #[.val (.ref a1), .val (.long q2), .second, .val (.long x2.1), .second, .val (.long x2.2), .second, .val (.int (((0 : Int32) + (1 : Int32)) + (1 : Int32))), .val (.long x2.2), .second] [])) target := by
    subst hx3; exact st4
  obtain ⟨x4, hx4⟩ : ∃ y, y = own_rd (own_F (own_hm hB)) 3 x3 := ⟨_, rfl⟩
  obtain ⟨T5, h5, l5, X5, e5, N5, Z5, q5, st5⟩ := own_tb a1 (.val (.long q2)) .second x3.1 x3.2 ((((0 : Int32) + (1 : Int32)) + (1 : Int32)) + (1 : Int32)) (own_hm hB) x3.2 X4 hx hZ hw hby hml hown e4 N4 Z4 Fm4 (by decide)
  have Fm5 : Fld Z h5 a1 "com/example/syncline/syncline/client/bench/Scatter" "halfMask" "J" (.long (own_hm hB)) := by rw [q5]; exact Fm4
  have Fb5 : Fld Z h5 a1 "com/example/syncline/syncline/client/bench/Scatter" "halfBits" "I" (.int hB) := by rw [q5]; exact Fb4
  have a5 : ∀ target, Steps p.tables e below (T5.setTop (mkF m 18 #[.val (.ref a1), .val (.long q2), .second, .val (.long x4.1), .second, .val (.long x4.2), .second, .val (.int (((((0 : Int32) + (1 : Int32)) + (1 : Int32)) + (1 : Int32)) + (1 : Int32))), .val (.long x4.2), .second] [])) target → Steps p.tables e below (T4.setTop (mkF m 18 #[.val (.ref a1), .val (.long q2), .second, .val (.long x3.1), .second, .val (.long x3.2), .second, .val (.int ((((0 : Int32) + (1 : Int32)) + (1 : Int32)) + (1 : Int32))), .val (.long x3.2), .second] [])) target := by
    subst hx4; exact st5
  obtain ⟨T6, X6, e6, st6⟩ := tn7_18_59 (.val (.ref a1)) (.val (.long q2)) .second (.val (.long x4.1)) .second (.val (.long x4.2)) .second (((((0 : Int32) + (1 : Int32)) + (1 : Int32)) + (1 : Int32)) + (1 : Int32)) (.val (.long x4.2)) .second X5 hx hZ hw hby hml hown e5 (by decide)
  obtain ⟨T7, X7, e7, st7⟩ := tn7_59_68 a1 (.val (.long q2)) .second x4.1 x4.2 (.val (.int (((((0 : Int32) + (1 : Int32)) + (1 : Int32)) + (1 : Int32)) + (1 : Int32)))) (.val (.long x4.2)) .second hB X6 hx hZ hw hby hml hown e6 Fb5
  have ex : own_P (own_F (own_hm hB)) hB q2 = (x4.1 <<< (hB &&& 0x3f).toInt64) ||| x4.2 := by rw [hx4, hx3, hx2, hx1, hx0]; rfl
  obtain ⟨fs, hr, hrun, hended, hW, hsame⟩ := X7.leave (v := some (.long ((x4.1 <<< (hB &&& 0x3f).toInt64) ||| x4.2))) (fun h => by rw [Bd.returns] at h; cases h)
  refine ⟨_, _, pre0 _ ?_, hrun, hended, _, _, rfl, ⟨by rw [ex], N5, by show T7.heap = h0; rw [e7, q5, q4, q3, q2_, eh1]⟩, ⟨_, rfl⟩, hW, hsame.mono (by decide) (by decide)⟩
  refine a1' _ (a2 _ (a3 _ (a4 _ (a5 _ (st6 _ (st7 _ ?_))))))
  exact own_retL X7 hx Bd.returns (hb hby d7_68) hr

theorem own_selp {s : State} {args : Array Value} {n : Nat} (hins : (Jvm.Cond.instantiable "com/example/syncline/syncline/client/bench/Scatter" n).before args s = true) (hpriv : (Jvm.Cond.privateMethod (⟨"com/example/syncline/syncline/client/bench/Scatter", "permute", "(J)J"⟩ : MethodName)).before args s = true) (hinst : (Jvm.Cond.instanceMethod (⟨"com/example/syncline/syncline/client/bench/Scatter", "permute", "(J)J"⟩ : MethodName)).before args s = true) :
    (Jvm.Cond.selects "com/example/syncline/syncline/client/bench/Scatter" (⟨"com/example/syncline/syncline/client/bench/Scatter", "permute", "(J)J"⟩ : MethodName) (⟨"com/example/syncline/syncline/client/bench/Scatter", "permute", "(J)J"⟩ : MethodName)).before args s = true := by
  obtain ⟨c, k, hc, hk, -, hniab, -, -⟩ := Cond.instantiable_spec hins
  have hni : k.isInterface = false := (Bool.or_eq_false_iff.mp hniab).1
  obtain ⟨mk, methM, hnamed, hmethM, -, -⟩ := Cond.instanceMethod_spec hinst
  have hy : "com/example/syncline/syncline/client/bench/Scatter" ≠ "java/lang/invoke/MethodHandle" ∧ "com/example/syncline/syncline/client/bench/Scatter" ≠ "java/lang/invoke/VarHandle" := by decide
  have hfound : s.methodFound? "com/example/syncline/syncline/client/bench/Scatter" "permute" "(J)J" = some mk := State.methodFound?_of_named hnamed hy
  have hcls : mk.cls = c := Option.some.inj ((findClass_of_methodNamed hnamed).symm.trans hc)
  have hsel : selectMethod {} s.vm c mk = .method mk := selectMethod_private hmethM (Cond.privateMethod_at hpriv mk methM hnamed hmethM)
  simp only [Jvm.Cond.before, Jvm.Cond.holds, Jvm.Cond.value, hc, hfound, hnamed, hsel, hcls, hk]
  simp; exact hni
theorem d6_3 : decode prog_29_method_2_code 3 = .ok (.aload_n 0, 1) := by decide +kernel
theorem d6_4 : decode prog_29_method_2_code 4 = .ok (.lload_n 2, 1) := by decide +kernel
theorem d6_5 : decode prog_29_method_2_code 5 = .ok (.invokevirtual 41, 3) := by decide +kernel
theorem d6_8 : decode prog_29_method_2_code 8 = .ok (.lstore_n 2, 1) := by decide +kernel
theorem d6_9 : decode prog_29_method_2_code 9 = .ok (.lload_n 2, 1) := by decide +kernel
theorem d6_10 : decode prog_29_method_2_code 10 = .ok (.aload_n 0, 1) := by decide +kernel
theorem d6_11 : decode prog_29_method_2_code 11 = .ok (.getfield 16, 3) := by decide +kernel
theorem d6_14 : decode prog_29_method_2_code 14 = .ok (.lcmp, 1) := by decide +kernel
theorem d6_15 : decode prog_29_method_2_code 15 = .ok (.ifCond .ge (-12), 3) := by decide +kernel
theorem pd_6_5 : parseMethodDescriptor "(J)J" = some ⟨[.long], some .long⟩ := by decide +kernel
set_option maxRecDepth 65536 in
set_option maxHeartbeats 40000000 in
theorem tn6_3_3 {p : Program} {l : Launch} {e : Env} {s : State} {m : MethodId} {args : Array Value} {below : List Frame} {meth : Method} {c : Code} {T0 : State} {locs : List Loc} {Z : State} {a0 : Array Value} {h0 : Heap} {n0 : Nat} (o0 : Addr) (s1 : Slot) (j2 : Int64) (w4 : Int64) (hB : Int32)
    (X0 : Stand p l e ({ frames := 2, cells := 0, slots := 0, locals := 38 } : Room) s m args below meth c T0 locs 0 0) (hx : p.tables.exec = Jvm.exec) (hZ : Z.Warmed39 s.vm) (hw : ∀ d ∈ tables_1, d.before a0 Z = true) (hby : c.code = prog_29_method_2_code) (hml : c.maxLocals = 4) (hown : s.vm.findClass "com/example/syncline/syncline/client/bench/Scatter" = some m.cls) (e0 : T0.heap = h0) (N0 : Fr n0 locs) (Z0 : n0 ≤ h0.size) (E_o0 : Exa Z h0 o0 "com/example/syncline/syncline/client/bench/Scatter") (F_count_o0 : Fld Z h0 o0 "com/example/syncline/syncline/client/bench/Scatter" "count" "J" (.long w4)) (Fb : Fld Z h0 o0 "com/example/syncline/syncline/client/bench/Scatter" "halfBits" "I" (.int hB)) (Fm : Fld Z h0 o0 "com/example/syncline/syncline/client/bench/Scatter" "halfMask" "J" (.long (own_hm hB))) (hlt : ¬ ((lcmpW (own_P (own_F (own_hm hB)) hB j2) w4) < (0 : Int32))) :
    ∃ (T' : State) (h' : Heap) (locs' : List Loc), Stand p l e ({ frames := 2, cells := 0, slots := 0, locals := 38 } : Room) s m args below meth c T' locs' 0 0 ∧ T'.heap = h' ∧ Fr n0 locs' ∧ n0 ≤ h'.size ∧ (h' = h0) ∧
      ∀ target, Steps p.tables e below (T'.setTop (mkF m 3 #[.val (.ref o0), s1, .val (.long (own_P (own_F (own_hm hB)) hB j2)), .second] [])) target → Steps p.tables e below (T0.setTop (mkF m 3 #[.val (.ref o0), s1, .val (.long j2), .second] [])) target := by
  obtain ⟨cq3, q3, q3'⟩ := E_o0.cell
  obtain ⟨_, _, ⟨T3, L3, k3, n3⟩, -, X3, ⟨Lc3, hQ3, l3, y3, z3⟩, st3⟩ := X0.privateBack hx (y := (⟨"com/example/syncline/syncline/client/bench/Scatter", "permute", "(J)J"⟩ : MethodName)) hown (mvT hZ (hw _ (List.mem_of_getElem? (i := 34) rfl))) (mvT hZ (hw _ (List.mem_of_getElem? (i := 35) rfl))) (own_selp (mvT hZ (hw _ (List.mem_of_getElem? (i := 6) rfl))) (mvP hZ (hw _ (List.mem_of_getElem? (i := 36) rfl))) (mvT hZ (hw _ (List.mem_of_getElem? (i := 35) rfl)))) (Cond.privateMethod_at (mvP hZ (hw _ (List.mem_of_getElem? (i := 36) rfl)) (args := #[]))) (mvT hZ (hw _ (List.mem_of_getElem? (i := 37) rfl))) (by decide) (backOf (W := 0) (rm7 l Z a0 hw [] o0 j2 hB h0 n0 Z0 Fb Fm) hZ (hw _ (List.mem_of_getElem? (i := 37) rfl)) (hw _ (List.mem_of_getElem? (i := 7) rfl)) (by decide) (by decide)) (g := (mkF m 5 #[.val (.ref o0), s1, .val (.long j2), .second] [(.long j2), (.ref o0)])) rfl (by rw [hml]; rfl) (Steps.refl _) (a := o0) (by rw [e0]; exact q3) q3' (argsL := [(.long j2)]) (rest := []) (lenOf pd_6_5 rfl) rfl (by show 2 * 0 + _ ≤ _; exact Nat.le_of_eq rfl) (hb hby d6_5) (fun _ _ => ⟨rfl, e0, (Nat.le_of_ble_eq_true rfl), (Nat.le_of_ble_eq_true rfl)⟩)
  dsimp only [Pt.U, Pt.locs, Pt.cells, Pt.slots] at X3 l3 y3 z3 st3 hQ3
  subst l3 y3 z3
  obtain ⟨rfl, N3q, q3_⟩ := hQ3
  have N3 := Fr.app N0 N3q
  have K3 : Keep h0 T3.heap [] := by rw [q3_]; exact Keep.refl _ _
  obtain ⟨T5, X5, e5, st5⟩ := getF X3 hx hZ hown (host := "") (Or.inl (hw _ (List.mem_of_getElem? (i := 14) rfl))) Via.refl rfl (F_count_o0.keep K3 nin0) (g := (mkF m 11 #[.val (.ref o0), s1, .val (.long (own_P (own_F (own_hm hB)) hB j2)), .second] [(.ref o0), (.long (own_P (own_F (own_hm hB)) hB j2))])) rfl rfl (hb hby d6_11)
  refine ⟨T5, _, _, X5, e5, N3, (by rw [q3_]; exact Z0), q3_, fun target kt => ?_⟩
  show Steps p.tables e below (T0.setTop (mkF m 3 #[.val (.ref o0), s1, .val (.long j2), .second] [])) _
  refine XS.aloadN X0.here hx rfl (hb hby d6_3) rfl rfl ?_
  show Steps p.tables e below (T0.setTop (mkF m 4 #[.val (.ref o0), s1, .val (.long j2), .second] [(.ref o0)])) _
  refine XS.lloadN X0.here hx rfl (hb hby d6_4) rfl ?_
  show Steps p.tables e below (T0.setTop (mkF m 5 #[.val (.ref o0), s1, .val (.long j2), .second] [(.long j2), (.ref o0)])) _
  refine st3.trans ?_
  show Steps p.tables e below (T3.setTop (mkF m 8 #[.val (.ref o0), s1, .val (.long j2), .second] [(.long (own_P (own_F (own_hm hB)) hB j2))])) _
  refine XS.lstoreN X3.here hx rfl (hb hby d6_8) rfl (l' := #[.val (.ref o0), s1, .val (.long (own_P (own_F (own_hm hB)) hB j2)), .second]) rfl ?_
  show Steps p.tables e below (T3.setTop (mkF m 9 #[.val (.ref o0), s1, .val (.long (own_P (own_F (own_hm hB)) hB j2)), .second] [])) _
  refine XS.lloadN X3.here hx rfl (hb hby d6_9) rfl ?_
  show Steps p.tables e below (T3.setTop (mkF m 10 #[.val (.ref o0), s1, .val (.long (own_P (own_F (own_hm hB)) hB j2)), .second] [(.long (own_P (own_F (own_hm hB)) hB j2))])) _
  refine XS.aloadN X3.here hx rfl (hb hby d6_10) rfl rfl ?_
  show Steps p.tables e below (T3.setTop (mkF m 11 #[.val (.ref o0), s1, .val (.long (own_P (own_F (own_hm hB)) hB j2)), .second] [(.ref o0), (.long (own_P (own_F (own_hm hB)) hB j2))])) _
  refine st5 _ ?_
  show Steps p.tables e below (T5.setTop (mkF m 14 #[.val (.ref o0), s1, .val (.long (own_P (own_F (own_hm hB)) hB j2)), .second] [(.long w4), (.long (own_P (own_F (own_hm hB)) hB j2))])) _
  refine XS.lcmp X5.here hx rfl (hb hby d6_14) rfl ?_
  show Steps p.tables e below (T5.setTop (mkF m 15 #[.val (.ref o0), s1, .val (.long (own_P (own_F (own_hm hB)) hB j2)), .second] [(.int (lcmpW (own_P (own_F (own_hm hB)) hB j2) w4))])) _
  refine XS.ifYes X5.here hx rfl (pc0 := 15) (pc' := 3) rfl (hb hby d6_15) rfl ((if0 _ _).trans (flt (hlt : ¬ ((lcmpW (own_P (own_F (own_hm hB)) hB j2) w4) < (0 : Int32)))).2.1) (by decide) (by decide) ?_
  exact kt
set_option maxRecDepth 65536 in
set_option maxHeartbeats 40000000 in
theorem tn6_3_18 {p : Program} {l : Launch} {e : Env} {s : State} {m : MethodId} {args : Array Value} {below : List Frame} {meth : Method} {c : Code} {T0 : State} {locs : List Loc} {Z : State} {a0 : Array Value} {h0 : Heap} {n0 : Nat} (o0 : Addr) (s1 : Slot) (j2 : Int64) (w4 : Int64) (hB : Int32)
    (X0 : Stand p l e ({ frames := 2, cells := 0, slots := 0, locals := 38 } : Room) s m args below meth c T0 locs 0 0) (hx : p.tables.exec = Jvm.exec) (hZ : Z.Warmed39 s.vm) (hw : ∀ d ∈ tables_1, d.before a0 Z = true) (hby : c.code = prog_29_method_2_code) (hml : c.maxLocals = 4) (hown : s.vm.findClass "com/example/syncline/syncline/client/bench/Scatter" = some m.cls) (e0 : T0.heap = h0) (N0 : Fr n0 locs) (Z0 : n0 ≤ h0.size) (E_o0 : Exa Z h0 o0 "com/example/syncline/syncline/client/bench/Scatter") (F_count_o0 : Fld Z h0 o0 "com/example/syncline/syncline/client/bench/Scatter" "count" "J" (.long w4)) (Fb : Fld Z h0 o0 "com/example/syncline/syncline/client/bench/Scatter" "halfBits" "I" (.int hB)) (Fm : Fld Z h0 o0 "com/example/syncline/syncline/client/bench/Scatter" "halfMask" "J" (.long (own_hm hB))) (hlt : (lcmpW (own_P (own_F (own_hm hB)) hB j2) w4) < (0 : Int32)) :
    ∃ (T' : State) (h' : Heap) (locs' : List Loc), Stand p l e ({ frames := 2, cells := 0, slots := 0, locals := 38 } : Room) s m args below meth c T' locs' 0 0 ∧ T'.heap = h' ∧ Fr n0 locs' ∧ n0 ≤ h'.size ∧ (h' = h0) ∧
      ∀ target, Steps p.tables e below (T'.setTop (mkF m 18 #[.val (.ref o0), s1, .val (.long (own_P (own_F (own_hm hB)) hB j2)), .second] [])) target → Steps p.tables e below (T0.setTop (mkF m 3 #[.val (.ref o0), s1, .val (.long j2), .second] [])) target := by
  obtain ⟨cq3, q3, q3'⟩ := E_o0.cell
  obtain ⟨_, _, ⟨T3, L3, k3, n3⟩, -, X3, ⟨Lc3, hQ3, l3, y3, z3⟩, st3⟩ := X0.privateBack hx (y := (⟨"com/example/syncline/syncline/client/bench/Scatter", "permute", "(J)J"⟩ : MethodName)) hown (mvT hZ (hw _ (List.mem_of_getElem? (i := 34) rfl))) (mvT hZ (hw _ (List.mem_of_getElem? (i := 35) rfl))) (own_selp (mvT hZ (hw _ (List.mem_of_getElem? (i := 6) rfl))) (mvP hZ (hw _ (List.mem_of_getElem? (i := 36) rfl))) (mvT hZ (hw _ (List.mem_of_getElem? (i := 35) rfl)))) (Cond.privateMethod_at (mvP hZ (hw _ (List.mem_of_getElem? (i := 36) rfl)) (args := #[]))) (mvT hZ (hw _ (List.mem_of_getElem? (i := 37) rfl))) (by decide) (backOf (W := 0) (rm7 l Z a0 hw [] o0 j2 hB h0 n0 Z0 Fb Fm) hZ (hw _ (List.mem_of_getElem? (i := 37) rfl)) (hw _ (List.mem_of_getElem? (i := 7) rfl)) (by decide) (by decide)) (g := (mkF m 5 #[.val (.ref o0), s1, .val (.long j2), .second] [(.long j2), (.ref o0)])) rfl (by rw [hml]; rfl) (Steps.refl _) (a := o0) (by rw [e0]; exact q3) q3' (argsL := [(.long j2)]) (rest := []) (lenOf pd_6_5 rfl) rfl (by show 2 * 0 + _ ≤ _; exact Nat.le_of_eq rfl) (hb hby d6_5) (fun _ _ => ⟨rfl, e0, (Nat.le_of_ble_eq_true rfl), (Nat.le_of_ble_eq_true rfl)⟩)
  dsimp only [Pt.U, Pt.locs, Pt.cells, Pt.slots] at X3 l3 y3 z3 st3 hQ3
  subst l3 y3 z3
  obtain ⟨rfl, N3q, q3_⟩ := hQ3
  have N3 := Fr.app N0 N3q
  have K3 : Keep h0 T3.heap [] := by rw [q3_]; exact Keep.refl _ _
  obtain ⟨T5, X5, e5, st5⟩ := getF X3 hx hZ hown (host := "") (Or.inl (hw _ (List.mem_of_getElem? (i := 14) rfl))) Via.refl rfl (F_count_o0.keep K3 nin0) (g := (mkF m 11 #[.val (.ref o0), s1, .val (.long (own_P (own_F (own_hm hB)) hB j2)), .second] [(.ref o0), (.long (own_P (own_F (own_hm hB)) hB j2))])) rfl rfl (hb hby d6_11)
  refine ⟨T5, _, _, X5, e5, N3, (by rw [q3_]; exact Z0), q3_, fun target kt => ?_⟩
  show Steps p.tables e below (T0.setTop (mkF m 3 #[.val (.ref o0), s1, .val (.long j2), .second] [])) _
  refine XS.aloadN X0.here hx rfl (hb hby d6_3) rfl rfl ?_
  show Steps p.tables e below (T0.setTop (mkF m 4 #[.val (.ref o0), s1, .val (.long j2), .second] [(.ref o0)])) _
  refine XS.lloadN X0.here hx rfl (hb hby d6_4) rfl ?_
  show Steps p.tables e below (T0.setTop (mkF m 5 #[.val (.ref o0), s1, .val (.long j2), .second] [(.long j2), (.ref o0)])) _
  refine st3.trans ?_
  show Steps p.tables e below (T3.setTop (mkF m 8 #[.val (.ref o0), s1, .val (.long j2), .second] [(.long (own_P (own_F (own_hm hB)) hB j2))])) _
  refine XS.lstoreN X3.here hx rfl (hb hby d6_8) rfl (l' := #[.val (.ref o0), s1, .val (.long (own_P (own_F (own_hm hB)) hB j2)), .second]) rfl ?_
  show Steps p.tables e below (T3.setTop (mkF m 9 #[.val (.ref o0), s1, .val (.long (own_P (own_F (own_hm hB)) hB j2)), .second] [])) _
  refine XS.lloadN X3.here hx rfl (hb hby d6_9) rfl ?_
  show Steps p.tables e below (T3.setTop (mkF m 10 #[.val (.ref o0), s1, .val (.long (own_P (own_F (own_hm hB)) hB j2)), .second] [(.long (own_P (own_F (own_hm hB)) hB j2))])) _
  refine XS.aloadN X3.here hx rfl (hb hby d6_10) rfl rfl ?_
  show Steps p.tables e below (T3.setTop (mkF m 11 #[.val (.ref o0), s1, .val (.long (own_P (own_F (own_hm hB)) hB j2)), .second] [(.ref o0), (.long (own_P (own_F (own_hm hB)) hB j2))])) _
  refine st5 _ ?_
  show Steps p.tables e below (T5.setTop (mkF m 14 #[.val (.ref o0), s1, .val (.long (own_P (own_F (own_hm hB)) hB j2)), .second] [(.long w4), (.long (own_P (own_F (own_hm hB)) hB j2))])) _
  refine XS.lcmp X5.here hx rfl (hb hby d6_14) rfl ?_
  show Steps p.tables e below (T5.setTop (mkF m 15 #[.val (.ref o0), s1, .val (.long (own_P (own_F (own_hm hB)) hB j2)), .second] [(.int (lcmpW (own_P (own_F (own_hm hB)) hB j2) w4))])) _
  refine XS.ifNo X5.here hx rfl (hb hby d6_15) rfl ((if0 _ _).trans (tlt (hlt : (lcmpW (own_P (own_F (own_hm hB)) hB j2) w4) < (0 : Int32))).2.1) ?_
  exact kt
theorem d6_0 : decode prog_29_method_2_code 0 = .ok (.iload_n 1, 1) := by decide +kernel
theorem d6_1 : decode prog_29_method_2_code 1 = .ok (.i2l, 1) := by decide +kernel
theorem d6_2 : decode prog_29_method_2_code 2 = .ok (.lstore_n 2, 1) := by decide +kernel
set_option maxRecDepth 65536 in
set_option maxHeartbeats 40000000 in
theorem tn6_0_3 {p : Program} {l : Launch} {e : Env} {R : Room} {s : State} {m : MethodId} {args : Array Value} {below : List Frame} {meth : Method} {c : Code} {T0 : State} {locs : List Loc} {cells slots : Nat} {Z : State} {a0 : Array Value} {h0 : Heap} (s0 : Slot) (i1 : Int32)
    (X0 : Stand p l e R s m args below meth c T0 locs cells slots) (hx : p.tables.exec = Jvm.exec) (hZ : Z.Warmed39 s.vm) (hw : ∀ d ∈ tables_1, d.before a0 Z = true) (hby : c.code = prog_29_method_2_code) (hml : c.maxLocals = 4) (hown : s.vm.findClass "com/example/syncline/syncline/client/bench/Scatter" = some m.cls) (e0 : T0.heap = h0) :
    ∃ (T' : State), Stand p l e R s m args below meth c T' locs cells slots ∧ T'.heap = h0 ∧
      ∀ target, Steps p.tables e below (T'.setTop (mkF m 3 #[s0, .val (.int i1), .val (.long (i1.toInt64)), .second] [])) target → Steps p.tables e below (T0.setTop (mkF m 0 #[s0, .val (.int i1), .unset, .unset] [])) target := by

  refine ⟨T0, X0, e0, fun target kt => ?_⟩
  show Steps p.tables e below (T0.setTop (mkF m 0 #[s0, .val (.int i1), .unset, .unset] [])) _
  refine XS.iloadN X0.here hx rfl (hb hby d6_0) rfl ?_
  show Steps p.tables e below (T0.setTop (mkF m 1 #[s0, .val (.int i1), .unset, .unset] [(.int i1)])) _
  refine XS.i2l X0.here hx rfl (hb hby d6_1) rfl ?_
  show Steps p.tables e below (T0.setTop (mkF m 2 #[s0, .val (.int i1), .unset, .unset] [(.long (i1.toInt64))])) _
  refine XS.lstoreN X0.here hx rfl (hb hby d6_2) rfl (l' := #[s0, .val (.int i1), .val (.long (i1.toInt64)), .second]) rfl ?_
  exact kt
theorem d6_18 : decode prog_29_method_2_code 18 = .ok (.lload_n 2, 1) := by decide +kernel
theorem d6_19 : decode prog_29_method_2_code 19 = .ok (.l2i, 1) := by decide +kernel
theorem d6_20 : decode prog_29_method_2_code 20 = .ok (.ireturn, 1) := by decide +kernel
theorem pn_6 : plainName "com/example/syncline/syncline/client/bench/Scatter" = true := by first | (simp [plainName, overriddenIn]; done) | decide +kernel
theorem ef_6 (m : MethodId) (x0 : Addr) (x1 : Int32) : entryFrame m #[(.ref x0), (.int x1)] 4 = mkF m 0 #[.val (.ref x0), .val (.int x1), .unset, .unset] [] := by first | (simp [entryFrame, mkF, argsToLocals, Value.category]; done) | rfl

set_option maxRecDepth 65536 in
set_option maxHeartbeats 40000000 in
theorem loop6 {p : Program} {l : Launch} {e : Env} {s : State} {m : MethodId} {args : Array Value} {below : List Frame} {meth : Method} {c : Code} {Z : State} {a0 : Array Value} {n0 : Nat} (a : Addr) (s1 : Slot) (hB : Int32) (cc : Int64) (hx : p.tables.exec = Jvm.exec) (hZ : Z.Warmed39 s.vm) (hw : ∀ d ∈ tables_1, d.before a0 Z = true) (hby : c.code = prog_29_method_2_code) (hml : c.maxLocals = 4) (hown : s.vm.findClass "com/example/syncline/syncline/client/bench/Scatter" = some m.cls) :
    ∀ (n : Nat) (v : Int64) (hv : own_it (own_P (own_F (own_hm hB)) hB) (n + 1) v < cc) (T0 : State) (h0 : Heap) (locs : List Loc) (X0 : Stand p l e ({ frames := 2, cells := 0, slots := 0, locals := 38 } : Room) s m args below meth c T0 locs 0 0) (e0 : T0.heap = h0) (N0 : Fr n0 locs) (Z0 : n0 ≤ h0.size) (E : Exa Z h0 a "com/example/syncline/syncline/client/bench/Scatter") (Fc : Fld Z h0 a "com/example/syncline/syncline/client/bench/Scatter" "count" "J" (.long cc)) (Fb : Fld Z h0 a "com/example/syncline/syncline/client/bench/Scatter" "halfBits" "I" (.int hB)) (Fm : Fld Z h0 a "com/example/syncline/syncline/client/bench/Scatter" "halfMask" "J" (.long (own_hm hB))),
    ∃ (k : Nat) (T' : State) (locs' : List Loc), Stand p l e ({ frames := 2, cells := 0, slots := 0, locals := 38 } : Room) s m args below meth c T' locs' 0 0 ∧ T'.heap = h0 ∧ Fr n0 locs' ∧ own_it (own_P (own_F (own_hm hB)) hB) (k + 1) v < cc ∧ (∀ j, j < k → ¬ own_it (own_P (own_F (own_hm hB)) hB) (j + 1) v < cc) ∧
      ∀ target, Steps p.tables e below (T'.setTop (mkF m 18 #[.val (.ref a), s1, .val (.long (own_it (own_P (own_F (own_hm hB)) hB) (k + 1) v)), .second] [])) target → Steps p.tables e below (T0.setTop (mkF m 3 #[.val (.ref a), s1, .val (.long v), .second] [])) target := by
  intro n
  induction n with
  | zero =>
    intro v hv T0 h0 locs X0 e0 N0 Z0 E Fc Fb Fm
    obtain ⟨T1, h1, l1, X1, e1, N1, Z1, q1, st1⟩ := tn6_3_18 a s1 v cc hB X0 hx hZ hw hby hml hown e0 N0 Z0 E Fc Fb Fm ((lw_lt _ _).mpr hv)
    exact ⟨0, T1, l1, X1, e1.trans q1, N1, hv, fun j hj => absurd hj (Nat.not_lt_zero _), st1⟩
  | succ n ih =>
    intro v hv T0 h0 locs X0 e0 N0 Z0 E Fc Fb Fm
    by_cases hc : (own_P (own_F (own_hm hB)) hB) v < cc
    · obtain ⟨T1, h1, l1, X1, e1, N1, Z1, q1, st1⟩ := tn6_3_18 a s1 v cc hB X0 hx hZ hw hby hml hown e0 N0 Z0 E Fc Fb Fm ((lw_lt _ _).mpr hc)
      exact ⟨0, T1, l1, X1, e1.trans q1, N1, hc, fun j hj => absurd hj (Nat.not_lt_zero _), st1⟩
    · obtain ⟨T1, h1, l1, X1, e1, N1, Z1, q1, st1⟩ := tn6_3_3 a s1 v cc hB X0 hx hZ hw hby hml hown e0 N0 Z0 E Fc Fb Fm (fun z => hc ((lw_lt _ _).mp z))
      subst q1
      obtain ⟨k, T2, l2, X2, e2, N2, hk, hj, st2⟩ := ih ((own_P (own_F (own_hm hB)) hB) v) hv T1 h1 l1 X1 e1 N1 Z1 E Fc Fb Fm
      refine ⟨k + 1, T2, l2, X2, e2, N2, hk, fun j hjk => ?_, fun target kt => st1 target (st2 target kt)⟩
      match j, hjk with
      | 0, _ => exact hc
      | j + 1, hjk => exact hj j (by omega)

def Q6 (P : Int64 → Int64) (cc v0 : Int64) (h0 : Heap) (n0 : Nat) (v : Option Value) (h : Heap) (L : List Loc) : Prop := ∃ k, own_Qr h0 n0 (.int (own_it P (k + 1) v0).toInt32) v h L ∧ own_it P (k + 1) v0 < cc ∧ ∀ j, j < k → ¬ own_it P (j + 1) v0 < cc
set_option maxRecDepth 65536 in
set_option maxHeartbeats 40000000 in
theorem rm6 (l : Launch) (Z : State) (a0 : Array Value) (hw : ∀ d ∈ tables_1, d.before a0 Z = true) (ws : List Jvm.Cond) (a1 : Addr) (p2 : Int32) (hB : Int32) (cc : Int64) (hback : ∃ n, own_it (own_P (own_F (own_hm hB)) hB) (n + 1) p2.toInt64 < cc) (h0 : Heap) (n0 : Nat) (Z0 : n0 ≤ h0.size) (E : Exa Z h0 a1 "com/example/syncline/syncline/client/bench/Scatter") (Fc : Fld Z h0 a1 "com/example/syncline/syncline/client/bench/Scatter" "count" "J" (.long cc)) (Fb : Fld Z h0 a1 "com/example/syncline/syncline/client/bench/Scatter" "halfBits" "I" (.int hB)) (Fm : Fld Z h0 a1 "com/example/syncline/syncline/client/bench/Scatter" "halfMask" "J" (.long (own_hm hB))) :
    MetFree l (⟨"com/example/syncline/syncline/client/bench/Scatter", "apply", "(I)I"⟩ : MethodName) (head1 (Jvm.Cond.code (⟨"com/example/syncline/syncline/client/bench/Scatter", "apply", "(I)I"⟩ : MethodName) prog_29_method_2_code 4 (some .int) :: ws) ({ frames := 2, cells := 0, slots := 0, locals := 38 } : Room)) (fun a U => a = #[(.ref a1), (.int p2)] ∧ Z.Warmed39 U.vm ∧ U.heap = h0) (fun _ _ _ _ _ => True) (fun _ U o U' => ∃ v L, o = .returned v ∧ Q6 (own_P (own_F (own_hm hB)) hB) cc (p2.toInt64) h0 n0 v U'.heap L ∧ FrameEnd U o U' L ({ frames := 2, cells := 0, slots := 0, locals := 38 } : Room).cells ({ frames := 2, cells := 0, slots := 0, locals := 38 } : Room).slots) := by
  refine MetFree.of_bodySF (plainFor_of_name pn_6) hisR ?_
  intro p e s m args below meth c s₁ Bd hml0 hP hK
  obtain ⟨rfl, hZ, hh⟩ := hP
  have hx := Bd.exec
  have hby := Bd.bytes
  have hml : c.maxLocals = 4 := hml0
  have hown : s.vm.findClass "com/example/syncline/syncline/client/bench/Scatter" = some m.cls := findClass_of_methodNamed Bd.named
  have X0 : Stand p l e ({ frames := 2, cells := 0, slots := 0, locals := 38 } : Room) s m #[(.ref a1), (.int p2)] below meth c s₁ [] 0 0 := Stand.of_body Bd
  have e0 : s₁.heap = h0 := by rw [← hh, Bd.state]; rfl
  have N0 := Fr.nil n0
  have pre0 : ∀ t, Steps p.tables e below (s₁.setTop (mkF m 0 #[.val (.ref a1), .val (.int p2), .unset, .unset] [])) t → Steps p.tables e below (s₁.setTop (entryFrame m #[(.ref a1), (.int p2)] 4)) t := fun t k => castTop (ef_6 m a1 p2) k
  obtain ⟨n, hn⟩ := hback
  obtain ⟨T1, X1, e1, st1⟩ := tn6_0_3 (.val (.ref a1)) p2 X0 hx hZ hw hby hml hown e0
  obtain ⟨k, T2, l2, X2, e2, N2, hk, hj, st2⟩ := loop6 a1 (.val (.int p2)) hB cc hx hZ hw hby hml hown n p2.toInt64 hn T1 h0 [] X1 e1 N0 Z0 E Fc Fb Fm
  obtain ⟨fs, hr, hrun, hended, hW, hsame⟩ := X2.leave (v := some (.int (own_it (own_P (own_F (own_hm hB)) hB) (k + 1) p2.toInt64).toInt32)) (fun h => by rw [Bd.returns] at h; cases h)
  refine ⟨_, _, pre0 _ ?_, hrun, hended, _, _, rfl, ⟨k, ⟨rfl, N2, e2⟩, hk, hj⟩, ⟨_, rfl⟩, hW, hsame.mono (by decide) (by decide)⟩
  refine st1 _ (st2 _ ?_)
  refine XS.lloadN X2.here hx rfl (hb hby d6_18) rfl ?_
  show Steps p.tables e below (T2.setTop (mkF m 19 #[.val (.ref a1), .val (.int p2), .val (.long (own_it (own_P (own_F (own_hm hB)) hB) (k + 1) p2.toInt64)), .second] [(.long (own_it (own_P (own_F (own_hm hB)) hB) (k + 1) p2.toInt64))])) _
  refine XS.l2i X2.here hx rfl (hb hby d6_19) rfl ?_
  show Steps p.tables e below (T2.setTop (mkF m 20 #[.val (.ref a1), .val (.int p2), .val (.long (own_it (own_P (own_F (own_hm hB)) hB) (k + 1) p2.toInt64)), .second] [(.int (own_it (own_P (own_F (own_hm hB)) hB) (k + 1) p2.toInt64).toInt32)])) _
  exact retI X2 hx Bd.returns (hb hby d6_20) hr

theorem own_nonneg (x : Int32) : ∃ k : Nat, k < 2147483648 ∧ (x &&& (2147483647 : Int32)) = Int32.ofNat k := by
  have h : (x &&& (2147483647 : Int32)).toBitVec.msb = false := by
    show (x.toBitVec &&& 2147483647#32).msb = false
    rw [BitVec.msb_and]
    have : (2147483647#32).msb = false := by decide
    rw [this, Bool.and_false]
  have h0 : 0 ≤ (x &&& (2147483647 : Int32)).toInt := by
    show 0 ≤ (x &&& (2147483647 : Int32)).toBitVec.toInt
    rw [BitVec.toInt_eq_msb_cond, h]; simp
  have h1 := Int32.toInt_lt (x &&& (2147483647 : Int32))
  refine ⟨(x &&& (2147483647 : Int32)).toInt.toNat, by omega, ?_⟩
  apply Int32.toInt_inj.mp
  rw [own_ti (by omega)]; omega
theorem own_cnt (x : Int32) : ∃ k : Nat, 1 ≤ k ∧ k < 2147483648 ∧ own_f1 (1 : Int32) (x &&& (2147483647 : Int32)) = Int32.ofNat k := by
  obtain ⟨k, hk, e⟩ := own_nonneg x
  rw [e]
  unfold own_f1
  by_cases q : (1 : Int32) < Int32.ofNat k
  · have := (own_ltn (i := 1) (by decide) hk).mp q
    rw [if_pos q]; exact ⟨k, by omega, hk, rfl⟩
  · rw [if_neg q]; exact ⟨1, Nat.le_refl _, by decide, rfl⟩
theorem own_modn (x : Int32) {c : Nat} (h1 : 1 ≤ c) (hc : c < 2147483648) : ∃ k : Nat, k < c ∧ ((x &&& (2147483647 : Int32)) % Int32.ofNat c) = Int32.ofNat k := by
  obtain ⟨k, hk, e⟩ := own_nonneg x
  rw [e]
  have h := (c_irem (Int32.ofNat k) (Int32.ofNat c) c (own_ti hc)).1 (by rw [own_ti hk]; omega)
  rw [own_ti hk] at h
  have h2 : (k : Int) % (c : Int) = ((k % c : Nat) : Int) := by omega
  have h3 := Nat.mod_lt k (show 0 < c by omega)
  refine ⟨k % c, h3, ?_⟩
  apply Int32.toInt_inj.mp
  rw [h, h2, own_ti (by omega)]
theorem own_nz {c : Nat} (h1 : 1 ≤ c) (hc : c < 2147483648) : ¬ (Int32.ofNat c = (0 : Int32)) := fun e => by
  have := congrArg Int32.toInt e
  rw [own_ti hc] at this
  have h0 : (0 : Int32).toInt = 0 := by decide
  omega
theorem own_fin {w : Int64} {h c : Nat} (hh : h < 17) (hc : c < 2147483648) (h1 : own_n w < 2 ^ (2 * h)) (hlt : w < Int64.ofNat c) : own_n w < c ∧ w.toInt32 = Int32.ofNat (own_n w) := by
  have hp : 2 ^ (2 * h) ≤ 2 ^ 32 := Nat.pow_le_pow_right (by decide) (by omega)
  have e : w.toInt = own_n w := by
    show w.toBitVec.toInt = _
    rw [BitVec.toInt_eq_toNat_cond, if_pos]
    · rfl
    · show 2 * own_n w < 2 ^ 64; omega
  rw [Int64.lt_iff_toInt_lt, e, own_i64 hc] at hlt
  have h2 : own_n w < c := by omega
  have e2 : w = Int64.ofNat (own_n w) := Int64.toInt_inj.mp (by rw [e, own_i64 (by omega)])
  exact ⟨h2, (congrArg Int64.toInt32 e2).trans (own_l2i (by omega))⟩
theorem own_inj32 {a b : Nat} (ha : a < 2147483648) (hb' : b < 2147483648) (e : Int32.ofNat a = Int32.ofNat b) : a = b := by
  have := congrArg Int32.toInt e
  rw [own_ti ha, own_ti hb'] at this; omega
theorem pd_0_0 : parseMethodDescriptor "(II)I" = some ⟨[.int, .int], some .int⟩ := by decide +kernel
theorem os0_8 {z0 : Value} {z1 : Value} {z2 : Value} {s3 : Slot} {s4 : Slot} {s5 : Slot} {s6 : Slot} {s7 : Slot} {s8 : Slot} {s9 : Slot} {s10 : Slot} {v : Int32} (h : One s3) : storeLocals #[.val z0, .val z1, .val z2, s3, s4, s5, s6, s7, s8, s9, s10] 3 (.int v) = some #[.val z0, .val z1, .val z2, .val (.int v), s4, s5, s6, s7, s8, s9, s10] := by
  rcases h with rfl | ⟨w, rfl, hw⟩
  · rfl
  · cases w <;> first | rfl | (simp [Value.category] at hw)
theorem os0_15 {z0 : Value} {z1 : Value} {z2 : Value} {z3 : Value} {s4 : Slot} {s5 : Slot} {s6 : Slot} {s7 : Slot} {s8 : Slot} {s9 : Slot} {s10 : Slot} {v : Int32} (h : One s4) : storeLocals #[.val z0, .val z1, .val z2, .val z3, s4, s5, s6, s7, s8, s9, s10] 4 (.int v) = some #[.val z0, .val z1, .val z2, .val z3, .val (.int v), s5, s6, s7, s8, s9, s10] := by
  rcases h with rfl | ⟨w, rfl, hw⟩
  · rfl
  · cases w <;> first | rfl | (simp [Value.category] at hw)
theorem os0_23 {z0 : Value} {z1 : Value} {z2 : Value} {z3 : Value} {z4 : Value} {s5 : Slot} {s6 : Slot} {s7 : Slot} {s8 : Slot} {s9 : Slot} {s10 : Slot} {v : Int32} (h : One s5) : storeLocals #[.val z0, .val z1, .val z2, .val z3, .val z4, s5, s6, s7, s8, s9, s10] 5 (.int v) = some #[.val z0, .val z1, .val z2, .val z3, .val z4, .val (.int v), s6, s7, s8, s9, s10] := by
  rcases h with rfl | ⟨w, rfl, hw⟩
  · rfl
  · cases w <;> first | rfl | (simp [Value.category] at hw)
set_option maxRecDepth 65536 in
set_option maxHeartbeats 40000000 in
theorem tn0_0_25 {p : Program} {l : Launch} {e : Env} {s : State} {m : MethodId} {args : Array Value} {below : List Frame} {meth : Method} {c : Code} {T0 : State} {locs : List Loc} {Z : State} {a0 : Array Value} {h0 : Heap} {n0 : Nat} (i0 : Int32) (i1 : Int32) (i2 : Int32)
    (X0 : Stand p l e room_1 s m args below meth c T0 locs 0 0) (hx : p.tables.exec = Jvm.exec) (hZ : Z.Warmed39 s.vm) (hw : ∀ d ∈ tables_1, d.before a0 Z = true) (hby : c.code = code) (hml : c.maxLocals = 11) (hown : s.vm.findClass "com/example/syncline/syncline/client/bench/ScatterApplyPinLaw" = some m.cls) (e0 : T0.heap = h0) (N0 : Fr n0 locs) (Z0 : n0 ≤ h0.size) (hs3 : One .unset) (hs4 : One .unset) (hs5 : One .unset) (hnz14 : ¬ ((own_f1 (1 : Int32) (i0 &&& (2147483647 : Int32))) = (0 : Int32))) (hnz22 : ¬ ((own_f1 (1 : Int32) (i0 &&& (2147483647 : Int32))) = (0 : Int32))) :
    ∃ (T' : State) (h' : Heap) (locs' : List Loc), Stand p l e room_1 s m args below meth c T' locs' 0 0 ∧ T'.heap = h' ∧ Fr n0 locs' ∧ n0 ≤ h'.size ∧ (h' = h0) ∧
      ∀ target, Steps p.tables e below (T'.setTop (mkF m 25 #[.val (.int i0), .val (.int i1), .val (.int i2), .val (.int (own_f1 (1 : Int32) (i0 &&& (2147483647 : Int32)))), .val (.int ((i1 &&& (2147483647 : Int32)) % (own_f1 (1 : Int32) (i0 &&& (2147483647 : Int32))))), .val (.int ((i2 &&& (2147483647 : Int32)) % (own_f1 (1 : Int32) (i0 &&& (2147483647 : Int32))))), .unset, .unset, .unset, .unset, .unset] [])) target → Steps p.tables e below (T0.setTop (mkF m 0 #[.val (.int i0), .val (.int i1), .val (.int i2), .unset, .unset, .unset, .unset, .unset, .unset, .unset, .unset] [])) target := by
  obtain ⟨_, _, ⟨T4, L4, k4, n4⟩, -, X4, ⟨Lc4, hQ4, l4, y4, z4⟩, st4⟩ := Jvm.LawKit.callS X0 hx (y := (⟨"java/lang/Math", "max", "(II)I"⟩ : MethodName)) hown (mvT hZ (hw _ (List.mem_of_getElem? (i := 1) rfl))) (mvT hZ (hw _ (List.mem_of_getElem? (i := 2) rfl))) (mvT hZ (hw _ (List.mem_of_getElem? (i := 3) rfl))) (mvT hZ (hw _ (List.mem_of_getElem? (i := 4) rfl))) (by decide) (backOf (W := 0) (rm1 l Z a0 hw [] (1 : Int32) (i0 &&& (2147483647 : Int32)) h0 n0 Z0) hZ (hw _ (List.mem_of_getElem? (i := 4) rfl)) (hw _ (List.mem_of_getElem? (i := 3) rfl)) (by decide) (by decide)) (g := (mkF m 5 #[.val (.int i0), .val (.int i1), .val (.int i2), .unset, .unset, .unset, .unset, .unset, .unset, .unset, .unset] [(.int (i0 &&& (2147483647 : Int32))), (.int (1 : Int32))])) rfl (by rw [hml]; rfl) (argsL := [(.int (1 : Int32)), (.int (i0 &&& (2147483647 : Int32)))]) (rest := []) (lenOf pd_0_0 rfl) rfl (by show 2 * 0 + _ ≤ _; exact Nat.le_of_eq rfl) (hb hby at_5) (fun _ _ => ⟨rfl, e0, (Nat.le_of_ble_eq_true rfl), (Nat.le_of_ble_eq_true rfl)⟩)
  dsimp only [Pt.U, Pt.locs, Pt.cells, Pt.slots] at X4 l4 y4 z4 st4 hQ4
  subst l4 y4 z4
  obtain ⟨rfl, N4q, q4⟩ := hQ4
  have N4 := Fr.app N0 N4q
  refine ⟨T4, _, _, X4, rfl, N4, (by rw [q4]; exact Z0), q4, fun target kt => ?_⟩
  show Steps p.tables e below (T0.setTop (mkF m 0 #[.val (.int i0), .val (.int i1), .val (.int i2), .unset, .unset, .unset, .unset, .unset, .unset, .unset, .unset] [])) _
  refine XS.iconst X0.here hx rfl (hb hby at_0) ?_
  show Steps p.tables e below (T0.setTop (mkF m 1 #[.val (.int i0), .val (.int i1), .val (.int i2), .unset, .unset, .unset, .unset, .unset, .unset, .unset, .unset] [(.int (1 : Int32))])) _
  refine XS.iloadN X0.here hx rfl (hb hby at_1) rfl ?_
  show Steps p.tables e below (T0.setTop (mkF m 2 #[.val (.int i0), .val (.int i1), .val (.int i2), .unset, .unset, .unset, .unset, .unset, .unset, .unset, .unset] [(.int i0), (.int (1 : Int32))])) _
  refine X0.ldcInt hx hown (mvT hZ (hw _ (List.mem_of_getElem? (i := 0) rfl))) (g := (mkF m 2 #[.val (.int i0), .val (.int i1), .val (.int i2), .unset, .unset, .unset, .unset, .unset, .unset, .unset, .unset] [(.int i0), (.int (1 : Int32))])) rfl (hb hby at_2) _ ?_
  show Steps p.tables e below (T0.setTop (mkF m 4 #[.val (.int i0), .val (.int i1), .val (.int i2), .unset, .unset, .unset, .unset, .unset, .unset, .unset, .unset] [(.int (2147483647 : Int32)), (.int i0), (.int (1 : Int32))])) _
  refine XS.iand X0.here hx rfl (hb hby at_4) rfl ?_
  show Steps p.tables e below (T0.setTop (mkF m 5 #[.val (.int i0), .val (.int i1), .val (.int i2), .unset, .unset, .unset, .unset, .unset, .unset, .unset, .unset] [(.int (i0 &&& (2147483647 : Int32))), (.int (1 : Int32))])) _
  refine st4 _ ?_
  show Steps p.tables e below (T4.setTop (mkF m 8 #[.val (.int i0), .val (.int i1), .val (.int i2), .unset, .unset, .unset, .unset, .unset, .unset, .unset, .unset] [(.int (own_f1 (1 : Int32) (i0 &&& (2147483647 : Int32))))])) _
  refine XS.istoreN X4.here hx rfl (hb hby at_8) rfl (l' := #[.val (.int i0), .val (.int i1), .val (.int i2), .val (.int (own_f1 (1 : Int32) (i0 &&& (2147483647 : Int32)))), .unset, .unset, .unset, .unset, .unset, .unset, .unset]) (os0_8 hs3) ?_
  show Steps p.tables e below (T4.setTop (mkF m 9 #[.val (.int i0), .val (.int i1), .val (.int i2), .val (.int (own_f1 (1 : Int32) (i0 &&& (2147483647 : Int32)))), .unset, .unset, .unset, .unset, .unset, .unset, .unset] [])) _
  refine XS.iloadN X4.here hx rfl (hb hby at_9) rfl ?_
  show Steps p.tables e below (T4.setTop (mkF m 10 #[.val (.int i0), .val (.int i1), .val (.int i2), .val (.int (own_f1 (1 : Int32) (i0 &&& (2147483647 : Int32)))), .unset, .unset, .unset, .unset, .unset, .unset, .unset] [(.int i1)])) _
  refine X4.ldcInt hx hown (mvT hZ (hw _ (List.mem_of_getElem? (i := 0) rfl))) (g := (mkF m 10 #[.val (.int i0), .val (.int i1), .val (.int i2), .val (.int (own_f1 (1 : Int32) (i0 &&& (2147483647 : Int32)))), .unset, .unset, .unset, .unset, .unset, .unset, .unset] [(.int i1)])) rfl (hb hby at_10) _ ?_
  show Steps p.tables e below (T4.setTop (mkF m 12 #[.val (.int i0), .val (.int i1), .val (.int i2), .val (.int (own_f1 (1 : Int32) (i0 &&& (2147483647 : Int32)))), .unset, .unset, .unset, .unset, .unset, .unset, .unset] [(.int (2147483647 : Int32)), (.int i1)])) _
  refine XS.iand X4.here hx rfl (hb hby at_12) rfl ?_
  show Steps p.tables e below (T4.setTop (mkF m 13 #[.val (.int i0), .val (.int i1), .val (.int i2), .val (.int (own_f1 (1 : Int32) (i0 &&& (2147483647 : Int32)))), .unset, .unset, .unset, .unset, .unset, .unset, .unset] [(.int (i1 &&& (2147483647 : Int32)))])) _
  refine XS.iloadN X4.here hx rfl (hb hby at_13) rfl ?_
  show Steps p.tables e below (T4.setTop (mkF m 14 #[.val (.int i0), .val (.int i1), .val (.int i2), .val (.int (own_f1 (1 : Int32) (i0 &&& (2147483647 : Int32)))), .unset, .unset, .unset, .unset, .unset, .unset, .unset] [(.int (own_f1 (1 : Int32) (i0 &&& (2147483647 : Int32)))), (.int (i1 &&& (2147483647 : Int32)))])) _
  refine own_irem X4.here hx rfl (hb hby at_14) rfl hnz14 ?_
  show Steps p.tables e below (T4.setTop (mkF m 15 #[.val (.int i0), .val (.int i1), .val (.int i2), .val (.int (own_f1 (1 : Int32) (i0 &&& (2147483647 : Int32)))), .unset, .unset, .unset, .unset, .unset, .unset, .unset] [(.int ((i1 &&& (2147483647 : Int32)) % (own_f1 (1 : Int32) (i0 &&& (2147483647 : Int32)))))])) _
  refine XS.istore X4.here hx rfl (hb hby at_15) rfl (l' := #[.val (.int i0), .val (.int i1), .val (.int i2), .val (.int (own_f1 (1 : Int32) (i0 &&& (2147483647 : Int32)))), .val (.int ((i1 &&& (2147483647 : Int32)) % (own_f1 (1 : Int32) (i0 &&& (2147483647 : Int32))))), .unset, .unset, .unset, .unset, .unset, .unset]) (os0_15 hs4) ?_
  show Steps p.tables e below (T4.setTop (mkF m 17 #[.val (.int i0), .val (.int i1), .val (.int i2), .val (.int (own_f1 (1 : Int32) (i0 &&& (2147483647 : Int32)))), .val (.int ((i1 &&& (2147483647 : Int32)) % (own_f1 (1 : Int32) (i0 &&& (2147483647 : Int32))))), .unset, .unset, .unset, .unset, .unset, .unset] [])) _
  refine XS.iloadN X4.here hx rfl (hb hby at_17) rfl ?_
  show Steps p.tables e below (T4.setTop (mkF m 18 #[.val (.int i0), .val (.int i1), .val (.int i2), .val (.int (own_f1 (1 : Int32) (i0 &&& (2147483647 : Int32)))), .val (.int ((i1 &&& (2147483647 : Int32)) % (own_f1 (1 : Int32) (i0 &&& (2147483647 : Int32))))), .unset, .unset, .unset, .unset, .unset, .unset] [(.int i2)])) _
  refine X4.ldcInt hx hown (mvT hZ (hw _ (List.mem_of_getElem? (i := 0) rfl))) (g := (mkF m 18 #[.val (.int i0), .val (.int i1), .val (.int i2), .val (.int (own_f1 (1 : Int32) (i0 &&& (2147483647 : Int32)))), .val (.int ((i1 &&& (2147483647 : Int32)) % (own_f1 (1 : Int32) (i0 &&& (2147483647 : Int32))))), .unset, .unset, .unset, .unset, .unset, .unset] [(.int i2)])) rfl (hb hby at_18) _ ?_
  show Steps p.tables e below (T4.setTop (mkF m 20 #[.val (.int i0), .val (.int i1), .val (.int i2), .val (.int (own_f1 (1 : Int32) (i0 &&& (2147483647 : Int32)))), .val (.int ((i1 &&& (2147483647 : Int32)) % (own_f1 (1 : Int32) (i0 &&& (2147483647 : Int32))))), .unset, .unset, .unset, .unset, .unset, .unset] [(.int (2147483647 : Int32)), (.int i2)])) _
  refine XS.iand X4.here hx rfl (hb hby at_20) rfl ?_
  show Steps p.tables e below (T4.setTop (mkF m 21 #[.val (.int i0), .val (.int i1), .val (.int i2), .val (.int (own_f1 (1 : Int32) (i0 &&& (2147483647 : Int32)))), .val (.int ((i1 &&& (2147483647 : Int32)) % (own_f1 (1 : Int32) (i0 &&& (2147483647 : Int32))))), .unset, .unset, .unset, .unset, .unset, .unset] [(.int (i2 &&& (2147483647 : Int32)))])) _
  refine XS.iloadN X4.here hx rfl (hb hby at_21) rfl ?_
  show Steps p.tables e below (T4.setTop (mkF m 22 #[.val (.int i0), .val (.int i1), .val (.int i2), .val (.int (own_f1 (1 : Int32) (i0 &&& (2147483647 : Int32)))), .val (.int ((i1 &&& (2147483647 : Int32)) % (own_f1 (1 : Int32) (i0 &&& (2147483647 : Int32))))), .unset, .unset, .unset, .unset, .unset, .unset] [(.int (own_f1 (1 : Int32) (i0 &&& (2147483647 : Int32)))), (.int (i2 &&& (2147483647 : Int32)))])) _
  refine own_irem X4.here hx rfl (hb hby at_22) rfl hnz22 ?_
  show Steps p.tables e below (T4.setTop (mkF m 23 #[.val (.int i0), .val (.int i1), .val (.int i2), .val (.int (own_f1 (1 : Int32) (i0 &&& (2147483647 : Int32)))), .val (.int ((i1 &&& (2147483647 : Int32)) % (own_f1 (1 : Int32) (i0 &&& (2147483647 : Int32))))), .unset, .unset, .unset, .unset, .unset, .unset] [(.int ((i2 &&& (2147483647 : Int32)) % (own_f1 (1 : Int32) (i0 &&& (2147483647 : Int32)))))])) _
  refine XS.istore X4.here hx rfl (hb hby at_23) rfl (l' := #[.val (.int i0), .val (.int i1), .val (.int i2), .val (.int (own_f1 (1 : Int32) (i0 &&& (2147483647 : Int32)))), .val (.int ((i1 &&& (2147483647 : Int32)) % (own_f1 (1 : Int32) (i0 &&& (2147483647 : Int32))))), .val (.int ((i2 &&& (2147483647 : Int32)) % (own_f1 (1 : Int32) (i0 &&& (2147483647 : Int32))))), .unset, .unset, .unset, .unset, .unset]) (os0_23 hs5) ?_
  exact kt
theorem pd_0_1 : parseMethodDescriptor "(I)V" = some ⟨[.int], none⟩ := by decide +kernel
theorem pd_0_4 : parseMethodDescriptor "(I)I" = some ⟨[.int], some .int⟩ := by decide +kernel
theorem os0_33 {s0 : Slot} {s1 : Slot} {s2 : Slot} {z3 : Value} {z4 : Value} {z5 : Value} {s6 : Slot} {s7 : Slot} {s8 : Slot} {s9 : Slot} {s10 : Slot} {v : Addr} (h : One s6) : storeLocals #[s0, s1, s2, .val z3, .val z4, .val z5, s6, s7, s8, s9, s10] 6 (.ref v) = some #[s0, s1, s2, .val z3, .val z4, .val z5, .val (.ref v), s7, s8, s9, s10] := by
  rcases h with rfl | ⟨w, rfl, hw⟩
  · rfl
  · cases w <;> first | rfl | (simp [Value.category] at hw)
theorem os0_42 {s0 : Slot} {s1 : Slot} {s2 : Slot} {z3 : Value} {z4 : Value} {z5 : Value} {z6 : Value} {s7 : Slot} {s8 : Slot} {s9 : Slot} {s10 : Slot} {v : Int32} (h : One s7) : storeLocals #[s0, s1, s2, .val z3, .val z4, .val z5, .val z6, s7, s8, s9, s10] 7 (.int v) = some #[s0, s1, s2, .val z3, .val z4, .val z5, .val z6, .val (.int v), s8, s9, s10] := by
  rcases h with rfl | ⟨w, rfl, hw⟩
  · rfl
  · cases w <;> first | rfl | (simp [Value.category] at hw)
theorem os0_51 {s0 : Slot} {s1 : Slot} {s2 : Slot} {z3 : Value} {z4 : Value} {z5 : Value} {z6 : Value} {z7 : Value} {s8 : Slot} {s9 : Slot} {s10 : Slot} {v : Int32} (h : One s8) : storeLocals #[s0, s1, s2, .val z3, .val z4, .val z5, .val z6, .val z7, s8, s9, s10] 8 (.int v) = some #[s0, s1, s2, .val z3, .val z4, .val z5, .val z6, .val z7, .val (.int v), s9, s10] := by
  rcases h with rfl | ⟨w, rfl, hw⟩
  · rfl
  · cases w <;> first | rfl | (simp [Value.category] at hw)
set_option maxRecDepth 65536 in
set_option maxHeartbeats 40000000 in
theorem tn0_25_53 {p : Program} {l : Launch} {e : Env} {s : State} {m : MethodId} {args : Array Value} {below : List Frame} {meth : Method} {c : Code} {T0 : State} {locs : List Loc} {Z : State} {a0 : Array Value} {h0 : Heap} {n0 : Nat} (s0 : Slot) (s1 : Slot) (s2 : Slot) (i3 : Int32) (i4 : Int32) (i5 : Int32) (cN : Nat) (hc : cN < 2147483648) (h1c : 1 ≤ cN)
    (X0 : Stand p l e room_1 s m args below meth c T0 locs 0 0) (hx : p.tables.exec = Jvm.exec) (hZ : Z.Warmed39 s.vm) (hw : ∀ d ∈ tables_1, d.before a0 Z = true) (hby : c.code = code) (hml : c.maxLocals = 11) (hown : s.vm.findClass "com/example/syncline/syncline/client/bench/ScatterApplyPinLaw" = some m.cls) (e0 : T0.heap = h0) (N0 : Fr n0 locs) (Z0 : n0 ≤ h0.size) (hs6 : One .unset) (hs7 : One .unset) (hs8 : One .unset) (hi3 : i3 = Int32.ofNat cN) (hba : ∃ n, own_it (own_P (own_F (own_hm (Int32.ofNat (own_h cN)))) (Int32.ofNat (own_h cN))) (n + 1) i4.toInt64 < Int64.ofNat cN) (hbb : ∃ n, own_it (own_P (own_F (own_hm (Int32.ofNat (own_h cN)))) (Int32.ofNat (own_h cN))) (n + 1) i5.toInt64 < Int64.ofNat cN) :
    ∃ (b4 : Addr) (ka : Nat) (kb : Nat) (T' : State) (h' : Heap) (locs' : List Loc), Stand p l e room_1 s m args below meth c T' locs' (0 + 1) (0 + 3) ∧ T'.heap = h' ∧ Fr n0 locs' ∧ n0 ≤ h'.size ∧ (own_it (own_P (own_F (own_hm (Int32.ofNat (own_h cN)))) (Int32.ofNat (own_h cN))) (ka + 1) i4.toInt64 < Int64.ofNat cN ∧ (∀ j, j < ka → ¬ own_it (own_P (own_F (own_hm (Int32.ofNat (own_h cN)))) (Int32.ofNat (own_h cN))) (j + 1) i4.toInt64 < Int64.ofNat cN) ∧ own_it (own_P (own_F (own_hm (Int32.ofNat (own_h cN)))) (Int32.ofNat (own_h cN))) (kb + 1) i5.toInt64 < Int64.ofNat cN ∧ (∀ j, j < kb → ¬ own_it (own_P (own_F (own_hm (Int32.ofNat (own_h cN)))) (Int32.ofNat (own_h cN))) (j + 1) i5.toInt64 < Int64.ofNat cN)) ∧
      ∀ target, Steps p.tables e below (T'.setTop (mkF m 53 #[s0, s1, s2, .val (.int i3), .val (.int i4), .val (.int i5), .val (.ref b4), .val (.int (own_it (own_P (own_F (own_hm (Int32.ofNat (own_h cN)))) (Int32.ofNat (own_h cN))) (ka + 1) i4.toInt64).toInt32), .val (.int (own_it (own_P (own_F (own_hm (Int32.ofNat (own_h cN)))) (Int32.ofNat (own_h cN))) (kb + 1) i5.toInt64).toInt32), .unset, .unset] [])) target → Steps p.tables e below (T0.setTop (mkF m 25 #[s0, s1, s2, .val (.int i3), .val (.int i4), .val (.int i5), .unset, .unset, .unset, .unset, .unset] [])) target := by
  obtain ⟨T4, h4, X4, e4, E4, A4, D4, -, st4⟩ := newO X0 hx hZ hown (hw _ (List.mem_of_getElem? (i := 5) rfl)) (hw _ (List.mem_of_getElem? (i := 6) rfl)) (hw _ (List.mem_of_getElem? (i := 7) rfl)) e0 (g := (mkF m 25 #[s0, s1, s2, .val (.int i3), .val (.int i4), .val (.int i5), .unset, .unset, .unset, .unset, .unset] [])) rfl (hb hby at_25) (by decide) (by decide)
  obtain ⟨b4, g4⟩ : ∃ z, z = h0.size := ⟨_, rfl⟩
  rw [← g4] at A4 D4 st4
  have F_count_b4 : Fld Z h4 b4 "com/example/syncline/syncline/client/bench/Scatter" "count" "J" (.long (0 : Int64)) := D4 (Or.inr (hw _ (List.mem_of_getElem? (i := 15) rfl))) (ty := .long) (by decide)
  have F_halfBits_b4 : Fld Z h4 b4 "com/example/syncline/syncline/client/bench/Scatter" "halfBits" "I" (.int (0 : Int32)) := D4 (Or.inr (hw _ (List.mem_of_getElem? (i := 26) rfl))) (ty := .int) (by decide)
  have F_halfMask_b4 : Fld Z h4 b4 "com/example/syncline/syncline/client/bench/Scatter" "halfMask" "J" (.long (0 : Int64)) := D4 (Or.inr (hw _ (List.mem_of_getElem? (i := 28) rfl))) (ty := .long) (by decide)
  have E_b4 := A4
  have g_b4 : n0 ≤ b4 := Nat.le_trans Z0 (Nat.le_of_eq g4.symm)
  have sz_b4 : h0.size ≤ b4 := (Nat.le_trans (Keep.refl h0 []).1 (Nat.le_of_eq g4.symm))
  have K4 : Keep h0 h4 [] := (Keep.refl h0 []).ext E4
  obtain ⟨_, _, ⟨T5, L5, k5, n5⟩, -, X5, ⟨Lc5, hQ5, l5, y5, z5⟩, st5⟩ := X4.specialBack hx (y := (⟨"com/example/syncline/syncline/client/bench/Scatter", "<init>", "(I)V"⟩ : MethodName)) rfl hown (mvT hZ (hw _ (List.mem_of_getElem? (i := 8) rfl))) (mvT hZ (hw _ (List.mem_of_getElem? (i := 9) rfl))) (mvT hZ (hw _ (List.mem_of_getElem? (i := 10) rfl))) (by decide) (backOf (W := 1) (rm2 l Z a0 hw [] b4 i3 _ _ _ cN hc h1c hi3 h4 n0 (Nat.le_trans Z0 E4.1) E_b4 F_count_b4 g_b4 F_halfBits_b4 F_halfMask_b4) hZ (hw _ (List.mem_of_getElem? (i := 10) rfl)) (hw _ (List.mem_of_getElem? (i := 7) rfl)) (by decide) (by decide)) (g := (mkF m 30 #[s0, s1, s2, .val (.int i3), .val (.int i4), .val (.int i5), .unset, .unset, .unset, .unset, .unset] [(.int i3), (.ref b4), (.ref b4)])) rfl (by rw [hml]; rfl) (Steps.refl _) (a := b4) (argsL := [(.int i3)]) (rest := [(.ref b4)]) (lenOf pd_0_1 rfl) rfl (by show 2 * 0 + _ ≤ _; exact Nat.le_of_eq rfl) (hb hby at_30) (fun _ _ => ⟨rfl, e4, (Nat.le_of_ble_eq_true rfl), (Nat.le_of_ble_eq_true rfl)⟩)
  dsimp only [Pt.U, Pt.locs, Pt.cells, Pt.slots] at X5 l5 y5 z5 st5 hQ5
  subst l5 y5 z5
  obtain ⟨rfl, N5q, K5, E5, Fc5, Fb5, Fm5⟩ := hQ5
  have Z5 : n0 ≤ T5.heap.size := Nat.le_trans (Nat.le_trans Z0 E4.1) K5.1
  have N5 := Fr.app N0 N5q
  obtain ⟨cq6, kq6, q6a, q6b, q6c⟩ := isOf hZ rfl E5
  obtain ⟨_, _, ⟨T6, L6, k6, n6⟩, -, X6, ⟨Lc6, hQ6, l6, y6, z6⟩, st6⟩ := X5.virtualBack hx (y := (⟨"com/example/syncline/syncline/client/bench/Scatter", "apply", "(I)I"⟩ : MethodName)) (z := (⟨"com/example/syncline/syncline/client/bench/Scatter", "apply", "(I)I"⟩ : MethodName)) hown (mvT hZ (hw _ (List.mem_of_getElem? (i := 29) rfl))) (mvT hZ (hw _ (List.mem_of_getElem? (i := 30) rfl))) (notFace_of_selects (args := #[]) (mvT hZ (hw _ (List.mem_of_getElem? (i := 32) rfl)))) (mvT hZ (hw _ (List.mem_of_getElem? (i := 32) rfl))) (mvT hZ (hw _ (List.mem_of_getElem? (i := 31) rfl))) (by decide) (backOf (W := 0) (rm6 l Z a0 hw [] b4 i4 (Int32.ofNat (own_h cN)) (Int64.ofNat cN) hba T5.heap n0 Z5 E5 Fc5 Fb5 Fm5) hZ (hw _ (List.mem_of_getElem? (i := 33) rfl)) (hw _ (List.mem_of_getElem? (i := 7) rfl)) (by decide) (by decide)) q6a q6c (g := (mkF m 39 #[s0, s1, s2, .val (.int i3), .val (.int i4), .val (.int i5), .val (.ref b4), .unset, .unset, .unset, .unset] [(.int i4), (.ref b4)])) rfl (by rw [hml]; rfl) (Steps.refl _) (argsL := [(.int i4)]) (rest := []) (lenOf pd_0_4 rfl) rfl (by show 2 * 0 + _ ≤ _; exact Nat.le_of_eq rfl) (hb hby at_39) (fun _ _ => ⟨rfl, rfl, (Nat.le_of_ble_eq_true rfl), (Nat.le_of_ble_eq_true rfl)⟩)
  dsimp only [Pt.U, Pt.locs, Pt.cells, Pt.slots] at X6 l6 y6 z6 st6 hQ6
  subst l6 y6 z6
  obtain ⟨ka, ⟨rfl, N6q, q6⟩, hkka, hjka⟩ := hQ6
  have N6 := Fr.app N5 N6q
  obtain ⟨cq7, kq7, q7a, q7b, q7c⟩ := isOf hZ rfl (by rw [q6]; exact E5)
  obtain ⟨_, _, ⟨T7, L7, k7, n7⟩, -, X7, ⟨Lc7, hQ7, l7, y7, z7⟩, st7⟩ := X6.virtualBack hx (y := (⟨"com/example/syncline/syncline/client/bench/Scatter", "apply", "(I)I"⟩ : MethodName)) (z := (⟨"com/example/syncline/syncline/client/bench/Scatter", "apply", "(I)I"⟩ : MethodName)) hown (mvT hZ (hw _ (List.mem_of_getElem? (i := 29) rfl))) (mvT hZ (hw _ (List.mem_of_getElem? (i := 30) rfl))) (notFace_of_selects (args := #[]) (mvT hZ (hw _ (List.mem_of_getElem? (i := 32) rfl)))) (mvT hZ (hw _ (List.mem_of_getElem? (i := 32) rfl))) (mvT hZ (hw _ (List.mem_of_getElem? (i := 31) rfl))) (by decide) (backOf (W := 0) (rm6 l Z a0 hw [] b4 i5 (Int32.ofNat (own_h cN)) (Int64.ofNat cN) hbb T6.heap n0 (by rw [q6]; exact Z5) (by rw [q6]; exact E5) (by rw [q6]; exact Fc5) (by rw [q6]; exact Fb5) (by rw [q6]; exact Fm5)) hZ (hw _ (List.mem_of_getElem? (i := 33) rfl)) (hw _ (List.mem_of_getElem? (i := 7) rfl)) (by decide) (by decide)) q7a q7c (g := (mkF m 48 #[s0, s1, s2, .val (.int i3), .val (.int i4), .val (.int i5), .val (.ref b4), .val (.int (own_it (own_P (own_F (own_hm (Int32.ofNat (own_h cN)))) (Int32.ofNat (own_h cN))) (ka + 1) i4.toInt64).toInt32), .unset, .unset, .unset] [(.int i5), (.ref b4)])) rfl (by rw [hml]; rfl) (Steps.refl _) (argsL := [(.int i5)]) (rest := []) (lenOf pd_0_4 rfl) rfl (by show 2 * 0 + _ ≤ _; exact Nat.le_of_eq rfl) (hb hby at_48) (fun _ _ => ⟨rfl, rfl, (Nat.le_of_ble_eq_true rfl), (Nat.le_of_ble_eq_true rfl)⟩)
  dsimp only [Pt.U, Pt.locs, Pt.cells, Pt.slots] at X7 l7 y7 z7 st7 hQ7
  subst l7 y7 z7
  obtain ⟨kb, ⟨rfl, N7q, q7⟩, hkkb, hjkb⟩ := hQ7
  have N7 := Fr.app N6 N7q
  refine ⟨b4, ka, kb, T7, _, _, X7, rfl, N7, (by rw [q7, q6]; exact Z5), ⟨hkka, hjka, hkkb, hjkb⟩, fun target kt => ?_⟩
  show Steps p.tables e below (T0.setTop (mkF m 25 #[s0, s1, s2, .val (.int i3), .val (.int i4), .val (.int i5), .unset, .unset, .unset, .unset, .unset] [])) _
  refine st4 _ ?_
  show Steps p.tables e below (T4.setTop (mkF m 28 #[s0, s1, s2, .val (.int i3), .val (.int i4), .val (.int i5), .unset, .unset, .unset, .unset, .unset] [(.ref b4)])) _
  refine XS.dup X4.here hx rfl (hb hby at_28) rfl rfl ?_
  show Steps p.tables e below (T4.setTop (mkF m 29 #[s0, s1, s2, .val (.int i3), .val (.int i4), .val (.int i5), .unset, .unset, .unset, .unset, .unset] [(.ref b4), (.ref b4)])) _
  refine XS.iloadN X4.here hx rfl (hb hby at_29) rfl ?_
  show Steps p.tables e below (T4.setTop (mkF m 30 #[s0, s1, s2, .val (.int i3), .val (.int i4), .val (.int i5), .unset, .unset, .unset, .unset, .unset] [(.int i3), (.ref b4), (.ref b4)])) _
  refine st5.trans ?_
  show Steps p.tables e below (T5.setTop (mkF m 33 #[s0, s1, s2, .val (.int i3), .val (.int i4), .val (.int i5), .unset, .unset, .unset, .unset, .unset] [(.ref b4)])) _
  refine XS.astore X5.here hx rfl (hb hby at_33) rfl rfl (l' := #[s0, s1, s2, .val (.int i3), .val (.int i4), .val (.int i5), .val (.ref b4), .unset, .unset, .unset, .unset]) (os0_33 hs6) ?_
  show Steps p.tables e below (T5.setTop (mkF m 35 #[s0, s1, s2, .val (.int i3), .val (.int i4), .val (.int i5), .val (.ref b4), .unset, .unset, .unset, .unset] [])) _
  refine XS.aload X5.here hx rfl (hb hby at_35) rfl rfl ?_
  show Steps p.tables e below (T5.setTop (mkF m 37 #[s0, s1, s2, .val (.int i3), .val (.int i4), .val (.int i5), .val (.ref b4), .unset, .unset, .unset, .unset] [(.ref b4)])) _
  refine XS.iload X5.here hx rfl (hb hby at_37) rfl ?_
  show Steps p.tables e below (T5.setTop (mkF m 39 #[s0, s1, s2, .val (.int i3), .val (.int i4), .val (.int i5), .val (.ref b4), .unset, .unset, .unset, .unset] [(.int i4), (.ref b4)])) _
  refine st6.trans ?_
  show Steps p.tables e below (T6.setTop (mkF m 42 #[s0, s1, s2, .val (.int i3), .val (.int i4), .val (.int i5), .val (.ref b4), .unset, .unset, .unset, .unset] [(.int (own_it (own_P (own_F (own_hm (Int32.ofNat (own_h cN)))) (Int32.ofNat (own_h cN))) (ka + 1) i4.toInt64).toInt32)])) _
  refine XS.istore X6.here hx rfl (hb hby at_42) rfl (l' := #[s0, s1, s2, .val (.int i3), .val (.int i4), .val (.int i5), .val (.ref b4), .val (.int (own_it (own_P (own_F (own_hm (Int32.ofNat (own_h cN)))) (Int32.ofNat (own_h cN))) (ka + 1) i4.toInt64).toInt32), .unset, .unset, .unset]) (os0_42 hs7) ?_
  show Steps p.tables e below (T6.setTop (mkF m 44 #[s0, s1, s2, .val (.int i3), .val (.int i4), .val (.int i5), .val (.ref b4), .val (.int (own_it (own_P (own_F (own_hm (Int32.ofNat (own_h cN)))) (Int32.ofNat (own_h cN))) (ka + 1) i4.toInt64).toInt32), .unset, .unset, .unset] [])) _
  refine XS.aload X6.here hx rfl (hb hby at_44) rfl rfl ?_
  show Steps p.tables e below (T6.setTop (mkF m 46 #[s0, s1, s2, .val (.int i3), .val (.int i4), .val (.int i5), .val (.ref b4), .val (.int (own_it (own_P (own_F (own_hm (Int32.ofNat (own_h cN)))) (Int32.ofNat (own_h cN))) (ka + 1) i4.toInt64).toInt32), .unset, .unset, .unset] [(.ref b4)])) _
  refine XS.iload X6.here hx rfl (hb hby at_46) rfl ?_
  show Steps p.tables e below (T6.setTop (mkF m 48 #[s0, s1, s2, .val (.int i3), .val (.int i4), .val (.int i5), .val (.ref b4), .val (.int (own_it (own_P (own_F (own_hm (Int32.ofNat (own_h cN)))) (Int32.ofNat (own_h cN))) (ka + 1) i4.toInt64).toInt32), .unset, .unset, .unset] [(.int i5), (.ref b4)])) _
  refine st7.trans ?_
  show Steps p.tables e below (T7.setTop (mkF m 51 #[s0, s1, s2, .val (.int i3), .val (.int i4), .val (.int i5), .val (.ref b4), .val (.int (own_it (own_P (own_F (own_hm (Int32.ofNat (own_h cN)))) (Int32.ofNat (own_h cN))) (ka + 1) i4.toInt64).toInt32), .unset, .unset, .unset] [(.int (own_it (own_P (own_F (own_hm (Int32.ofNat (own_h cN)))) (Int32.ofNat (own_h cN))) (kb + 1) i5.toInt64).toInt32)])) _
  refine XS.istore X7.here hx rfl (hb hby at_51) rfl (l' := #[s0, s1, s2, .val (.int i3), .val (.int i4), .val (.int i5), .val (.ref b4), .val (.int (own_it (own_P (own_F (own_hm (Int32.ofNat (own_h cN)))) (Int32.ofNat (own_h cN))) (ka + 1) i4.toInt64).toInt32), .val (.int (own_it (own_P (own_F (own_hm (Int32.ofNat (own_h cN)))) (Int32.ofNat (own_h cN))) (kb + 1) i5.toInt64).toInt32), .unset, .unset]) (os0_51 hs8) ?_
  exact kt
theorem os0_82 {s0 : Slot} {s1 : Slot} {s2 : Slot} {z3 : Value} {z4 : Value} {z5 : Value} {s6 : Slot} {z7 : Value} {z8 : Value} {s9 : Slot} {s10 : Slot} {v : Int32} (h : One s9) : storeLocals #[s0, s1, s2, .val z3, .val z4, .val z5, s6, .val z7, .val z8, s9, s10] 9 (.int v) = some #[s0, s1, s2, .val z3, .val z4, .val z5, s6, .val z7, .val z8, .val (.int v), s10] := by
  rcases h with rfl | ⟨w, rfl, hw⟩
  · rfl
  · cases w <;> first | rfl | (simp [Value.category] at hw)
theorem os0_116 {s0 : Slot} {s1 : Slot} {s2 : Slot} {z3 : Value} {z4 : Value} {z5 : Value} {s6 : Slot} {z7 : Value} {z8 : Value} {z9 : Value} {s10 : Slot} {v : Int32} (h : One s10) : storeLocals #[s0, s1, s2, .val z3, .val z4, .val z5, s6, .val z7, .val z8, .val z9, s10] 10 (.int v) = some #[s0, s1, s2, .val z3, .val z4, .val z5, s6, .val z7, .val z8, .val z9, .val (.int v)] := by
  rcases h with rfl | ⟨w, rfl, hw⟩
  · rfl
  · cases w <;> first | rfl | (simp [Value.category] at hw)
set_option maxRecDepth 65536 in
set_option maxHeartbeats 40000000 in
theorem own_same {p : Program} {l : Launch} {e : Env} {R : Room} {s : State} {m : MethodId} {args : Array Value} {below : List Frame} {meth : Method} {c : Code} {T0 : State} {locs : List Loc} {cells slots : Nat} {Z : State} {a0 : Array Value} {h0 : Heap} (s0 : Slot) (s1 : Slot) (s2 : Slot) (i3 : Int32) (i4 : Int32) (i5 : Int32) (s6 : Slot) (i7 : Int32) (i8 : Int32)
    (X0 : Stand p l e R s m args below meth c T0 locs cells slots) (hx : p.tables.exec = Jvm.exec) (hZ : Z.Warmed39 s.vm) (hw : ∀ d ∈ tables_1, d.before a0 Z = true) (hby : c.code = code) (hml : c.maxLocals = 11) (hown : s.vm.findClass "com/example/syncline/syncline/client/bench/ScatterApplyPinLaw" = some m.cls) (e0 : T0.heap = h0) (hs9 : One .unset) (hs10 : One .unset) (hc56 : ¬ (i7 < (0 : Int32))) (hc62 : i7 < i3) (hc68 : ¬ (i8 < (0 : Int32))) (hc74 : i8 < i3) (hc88 : i4 = i5) (hc100 : i7 = i8) (hc120 : ¬ ((1 : Int32) = (0 : Int32))) (hc125 : ¬ ((1 : Int32) = (0 : Int32))) :
    ∃ (T' : State), Stand p l e R s m args below meth c T' locs cells slots ∧ T'.heap = h0 ∧
      ∀ target, Steps p.tables e below (T'.setTop (mkF m 133 #[s0, s1, s2, .val (.int i3), .val (.int i4), .val (.int i5), s6, .val (.int i7), .val (.int i8), .val (.int (1 : Int32)), .val (.int (1 : Int32))] [(.int (1 : Int32))])) target → Steps p.tables e below (T0.setTop (mkF m 53 #[s0, s1, s2, .val (.int i3), .val (.int i4), .val (.int i5), s6, .val (.int i7), .val (.int i8), .unset, .unset] [])) target := by

  refine ⟨T0, X0, e0, fun target kt => ?_⟩
  show Steps p.tables e below (T0.setTop (mkF m 53 #[s0, s1, s2, .val (.int i3), .val (.int i4), .val (.int i5), s6, .val (.int i7), .val (.int i8), .unset, .unset] [])) _
  refine XS.iconst X0.here hx rfl (hb hby at_53) ?_
  show Steps p.tables e below (T0.setTop (mkF m 54 #[s0, s1, s2, .val (.int i3), .val (.int i4), .val (.int i5), s6, .val (.int i7), .val (.int i8), .unset, .unset] [(.int (0 : Int32))])) _
  refine XS.iload X0.here hx rfl (hb hby at_54) rfl ?_
  show Steps p.tables e below (T0.setTop (mkF m 56 #[s0, s1, s2, .val (.int i3), .val (.int i4), .val (.int i5), s6, .val (.int i7), .val (.int i8), .unset, .unset] [(.int i7), (.int (0 : Int32))])) _
  refine XS.icmpNo X0.here hx rfl (hb hby at_56) rfl (flt hc56).2.2.1 ?_
  show Steps p.tables e below (T0.setTop (mkF m 59 #[s0, s1, s2, .val (.int i3), .val (.int i4), .val (.int i5), s6, .val (.int i7), .val (.int i8), .unset, .unset] [])) _
  refine XS.iload X0.here hx rfl (hb hby at_59) rfl ?_
  show Steps p.tables e below (T0.setTop (mkF m 61 #[s0, s1, s2, .val (.int i3), .val (.int i4), .val (.int i5), s6, .val (.int i7), .val (.int i8), .unset, .unset] [(.int i7)])) _
  refine XS.iloadN X0.here hx rfl (hb hby at_61) rfl ?_
  show Steps p.tables e below (T0.setTop (mkF m 62 #[s0, s1, s2, .val (.int i3), .val (.int i4), .val (.int i5), s6, .val (.int i7), .val (.int i8), .unset, .unset] [(.int i3), (.int i7)])) _
  refine XS.icmpNo X0.here hx rfl (hb hby at_62) rfl (tlt hc62).2.1 ?_
  show Steps p.tables e below (T0.setTop (mkF m 65 #[s0, s1, s2, .val (.int i3), .val (.int i4), .val (.int i5), s6, .val (.int i7), .val (.int i8), .unset, .unset] [])) _
  refine XS.iconst X0.here hx rfl (hb hby at_65) ?_
  show Steps p.tables e below (T0.setTop (mkF m 66 #[s0, s1, s2, .val (.int i3), .val (.int i4), .val (.int i5), s6, .val (.int i7), .val (.int i8), .unset, .unset] [(.int (0 : Int32))])) _
  refine XS.iload X0.here hx rfl (hb hby at_66) rfl ?_
  show Steps p.tables e below (T0.setTop (mkF m 68 #[s0, s1, s2, .val (.int i3), .val (.int i4), .val (.int i5), s6, .val (.int i7), .val (.int i8), .unset, .unset] [(.int i8), (.int (0 : Int32))])) _
  refine XS.icmpNo X0.here hx rfl (hb hby at_68) rfl (flt hc68).2.2.1 ?_
  show Steps p.tables e below (T0.setTop (mkF m 71 #[s0, s1, s2, .val (.int i3), .val (.int i4), .val (.int i5), s6, .val (.int i7), .val (.int i8), .unset, .unset] [])) _
  refine XS.iload X0.here hx rfl (hb hby at_71) rfl ?_
  show Steps p.tables e below (T0.setTop (mkF m 73 #[s0, s1, s2, .val (.int i3), .val (.int i4), .val (.int i5), s6, .val (.int i7), .val (.int i8), .unset, .unset] [(.int i8)])) _
  refine XS.iloadN X0.here hx rfl (hb hby at_73) rfl ?_
  show Steps p.tables e below (T0.setTop (mkF m 74 #[s0, s1, s2, .val (.int i3), .val (.int i4), .val (.int i5), s6, .val (.int i7), .val (.int i8), .unset, .unset] [(.int i3), (.int i8)])) _
  refine XS.icmpNo X0.here hx rfl (hb hby at_74) rfl (tlt hc74).2.1 ?_
  show Steps p.tables e below (T0.setTop (mkF m 77 #[s0, s1, s2, .val (.int i3), .val (.int i4), .val (.int i5), s6, .val (.int i7), .val (.int i8), .unset, .unset] [])) _
  refine XS.iconst X0.here hx rfl (hb hby at_77) ?_
  show Steps p.tables e below (T0.setTop (mkF m 78 #[s0, s1, s2, .val (.int i3), .val (.int i4), .val (.int i5), s6, .val (.int i7), .val (.int i8), .unset, .unset] [(.int (1 : Int32))])) _
  refine XS.goto X0.here hx rfl (pc0 := 78) (pc' := 82) rfl (hb hby at_78) (by decide) (by decide) ?_
  show Steps p.tables e below (T0.setTop (mkF m 82 #[s0, s1, s2, .val (.int i3), .val (.int i4), .val (.int i5), s6, .val (.int i7), .val (.int i8), .unset, .unset] [(.int (1 : Int32))])) _
  refine XS.istore X0.here hx rfl (hb hby at_82) rfl (l' := #[s0, s1, s2, .val (.int i3), .val (.int i4), .val (.int i5), s6, .val (.int i7), .val (.int i8), .val (.int (1 : Int32)), .unset]) (os0_82 hs9) ?_
  show Steps p.tables e below (T0.setTop (mkF m 84 #[s0, s1, s2, .val (.int i3), .val (.int i4), .val (.int i5), s6, .val (.int i7), .val (.int i8), .val (.int (1 : Int32)), .unset] [])) _
  refine XS.iload X0.here hx rfl (hb hby at_84) rfl ?_
  show Steps p.tables e below (T0.setTop (mkF m 86 #[s0, s1, s2, .val (.int i3), .val (.int i4), .val (.int i5), s6, .val (.int i7), .val (.int i8), .val (.int (1 : Int32)), .unset] [(.int i4)])) _
  refine XS.iload X0.here hx rfl (hb hby at_86) rfl ?_
  show Steps p.tables e below (T0.setTop (mkF m 88 #[s0, s1, s2, .val (.int i3), .val (.int i4), .val (.int i5), s6, .val (.int i7), .val (.int i8), .val (.int (1 : Int32)), .unset] [(.int i5), (.int i4)])) _
  refine XS.icmpNo X0.here hx rfl (hb hby at_88) rfl (teq hc88).2 ?_
  show Steps p.tables e below (T0.setTop (mkF m 91 #[s0, s1, s2, .val (.int i3), .val (.int i4), .val (.int i5), s6, .val (.int i7), .val (.int i8), .val (.int (1 : Int32)), .unset] [])) _
  refine XS.iconst X0.here hx rfl (hb hby at_91) ?_
  show Steps p.tables e below (T0.setTop (mkF m 92 #[s0, s1, s2, .val (.int i3), .val (.int i4), .val (.int i5), s6, .val (.int i7), .val (.int i8), .val (.int (1 : Int32)), .unset] [(.int (1 : Int32))])) _
  refine XS.goto X0.here hx rfl (pc0 := 92) (pc' := 96) rfl (hb hby at_92) (by decide) (by decide) ?_
  show Steps p.tables e below (T0.setTop (mkF m 96 #[s0, s1, s2, .val (.int i3), .val (.int i4), .val (.int i5), s6, .val (.int i7), .val (.int i8), .val (.int (1 : Int32)), .unset] [(.int (1 : Int32))])) _
  refine XS.iload X0.here hx rfl (hb hby at_96) rfl ?_
  show Steps p.tables e below (T0.setTop (mkF m 98 #[s0, s1, s2, .val (.int i3), .val (.int i4), .val (.int i5), s6, .val (.int i7), .val (.int i8), .val (.int (1 : Int32)), .unset] [(.int i7), (.int (1 : Int32))])) _
  refine XS.iload X0.here hx rfl (hb hby at_98) rfl ?_
  show Steps p.tables e below (T0.setTop (mkF m 100 #[s0, s1, s2, .val (.int i3), .val (.int i4), .val (.int i5), s6, .val (.int i7), .val (.int i8), .val (.int (1 : Int32)), .unset] [(.int i8), (.int i7), (.int (1 : Int32))])) _
  refine XS.icmpNo X0.here hx rfl (hb hby at_100) rfl (teq hc100).2 ?_
  show Steps p.tables e below (T0.setTop (mkF m 103 #[s0, s1, s2, .val (.int i3), .val (.int i4), .val (.int i5), s6, .val (.int i7), .val (.int i8), .val (.int (1 : Int32)), .unset] [(.int (1 : Int32))])) _
  refine XS.iconst X0.here hx rfl (hb hby at_103) ?_
  show Steps p.tables e below (T0.setTop (mkF m 104 #[s0, s1, s2, .val (.int i3), .val (.int i4), .val (.int i5), s6, .val (.int i7), .val (.int i8), .val (.int (1 : Int32)), .unset] [(.int (1 : Int32)), (.int (1 : Int32))])) _
  refine XS.goto X0.here hx rfl (pc0 := 104) (pc' := 108) rfl (hb hby at_104) (by decide) (by decide) ?_
  show Steps p.tables e below (T0.setTop (mkF m 108 #[s0, s1, s2, .val (.int i3), .val (.int i4), .val (.int i5), s6, .val (.int i7), .val (.int i8), .val (.int (1 : Int32)), .unset] [(.int (1 : Int32)), (.int (1 : Int32))])) _
  refine XS.icmpNo X0.here hx rfl (hb hby at_108) rfl (teq (rfl : (1 : Int32) = (1 : Int32))).2 ?_
  show Steps p.tables e below (T0.setTop (mkF m 111 #[s0, s1, s2, .val (.int i3), .val (.int i4), .val (.int i5), s6, .val (.int i7), .val (.int i8), .val (.int (1 : Int32)), .unset] [])) _
  refine XS.iconst X0.here hx rfl (hb hby at_111) ?_
  show Steps p.tables e below (T0.setTop (mkF m 112 #[s0, s1, s2, .val (.int i3), .val (.int i4), .val (.int i5), s6, .val (.int i7), .val (.int i8), .val (.int (1 : Int32)), .unset] [(.int (1 : Int32))])) _
  refine XS.goto X0.here hx rfl (pc0 := 112) (pc' := 116) rfl (hb hby at_112) (by decide) (by decide) ?_
  show Steps p.tables e below (T0.setTop (mkF m 116 #[s0, s1, s2, .val (.int i3), .val (.int i4), .val (.int i5), s6, .val (.int i7), .val (.int i8), .val (.int (1 : Int32)), .unset] [(.int (1 : Int32))])) _
  refine XS.istore X0.here hx rfl (hb hby at_116) rfl (l' := #[s0, s1, s2, .val (.int i3), .val (.int i4), .val (.int i5), s6, .val (.int i7), .val (.int i8), .val (.int (1 : Int32)), .val (.int (1 : Int32))]) (os0_116 hs10) ?_
  show Steps p.tables e below (T0.setTop (mkF m 118 #[s0, s1, s2, .val (.int i3), .val (.int i4), .val (.int i5), s6, .val (.int i7), .val (.int i8), .val (.int (1 : Int32)), .val (.int (1 : Int32))] [])) _
  refine XS.iload X0.here hx rfl (hb hby at_118) rfl ?_
  show Steps p.tables e below (T0.setTop (mkF m 120 #[s0, s1, s2, .val (.int i3), .val (.int i4), .val (.int i5), s6, .val (.int i7), .val (.int i8), .val (.int (1 : Int32)), .val (.int (1 : Int32))] [(.int (1 : Int32))])) _
  refine XS.ifNo X0.here hx rfl (hb hby at_120) rfl ((if0 _ _).trans (feq hc120).1) ?_
  show Steps p.tables e below (T0.setTop (mkF m 123 #[s0, s1, s2, .val (.int i3), .val (.int i4), .val (.int i5), s6, .val (.int i7), .val (.int i8), .val (.int (1 : Int32)), .val (.int (1 : Int32))] [])) _
  refine XS.iload X0.here hx rfl (hb hby at_123) rfl ?_
  show Steps p.tables e below (T0.setTop (mkF m 125 #[s0, s1, s2, .val (.int i3), .val (.int i4), .val (.int i5), s6, .val (.int i7), .val (.int i8), .val (.int (1 : Int32)), .val (.int (1 : Int32))] [(.int (1 : Int32))])) _
  refine XS.ifNo X0.here hx rfl (hb hby at_125) rfl ((if0 _ _).trans (feq hc125).1) ?_
  show Steps p.tables e below (T0.setTop (mkF m 128 #[s0, s1, s2, .val (.int i3), .val (.int i4), .val (.int i5), s6, .val (.int i7), .val (.int i8), .val (.int (1 : Int32)), .val (.int (1 : Int32))] [])) _
  refine XS.iconst X0.here hx rfl (hb hby at_128) ?_
  show Steps p.tables e below (T0.setTop (mkF m 129 #[s0, s1, s2, .val (.int i3), .val (.int i4), .val (.int i5), s6, .val (.int i7), .val (.int i8), .val (.int (1 : Int32)), .val (.int (1 : Int32))] [(.int (1 : Int32))])) _
  refine XS.goto X0.here hx rfl (pc0 := 129) (pc' := 133) rfl (hb hby at_129) (by decide) (by decide) ?_
  exact kt
set_option maxRecDepth 65536 in
set_option maxHeartbeats 40000000 in
theorem own_diff {p : Program} {l : Launch} {e : Env} {R : Room} {s : State} {m : MethodId} {args : Array Value} {below : List Frame} {meth : Method} {c : Code} {T0 : State} {locs : List Loc} {cells slots : Nat} {Z : State} {a0 : Array Value} {h0 : Heap} (s0 : Slot) (s1 : Slot) (s2 : Slot) (i3 : Int32) (i4 : Int32) (i5 : Int32) (s6 : Slot) (i7 : Int32) (i8 : Int32)
    (X0 : Stand p l e R s m args below meth c T0 locs cells slots) (hx : p.tables.exec = Jvm.exec) (hZ : Z.Warmed39 s.vm) (hw : ∀ d ∈ tables_1, d.before a0 Z = true) (hby : c.code = code) (hml : c.maxLocals = 11) (hown : s.vm.findClass "com/example/syncline/syncline/client/bench/ScatterApplyPinLaw" = some m.cls) (e0 : T0.heap = h0) (hs9 : One .unset) (hs10 : One .unset) (hc56 : ¬ (i7 < (0 : Int32))) (hc62 : i7 < i3) (hc68 : ¬ (i8 < (0 : Int32))) (hc74 : i8 < i3) (hc88 : ¬ (i4 = i5)) (hc100 : ¬ (i7 = i8)) (hc120 : ¬ ((1 : Int32) = (0 : Int32))) (hc125 : ¬ ((1 : Int32) = (0 : Int32))) :
    ∃ (T' : State), Stand p l e R s m args below meth c T' locs cells slots ∧ T'.heap = h0 ∧
      ∀ target, Steps p.tables e below (T'.setTop (mkF m 133 #[s0, s1, s2, .val (.int i3), .val (.int i4), .val (.int i5), s6, .val (.int i7), .val (.int i8), .val (.int (1 : Int32)), .val (.int (1 : Int32))] [(.int (1 : Int32))])) target → Steps p.tables e below (T0.setTop (mkF m 53 #[s0, s1, s2, .val (.int i3), .val (.int i4), .val (.int i5), s6, .val (.int i7), .val (.int i8), .unset, .unset] [])) target := by

  refine ⟨T0, X0, e0, fun target kt => ?_⟩
  show Steps p.tables e below (T0.setTop (mkF m 53 #[s0, s1, s2, .val (.int i3), .val (.int i4), .val (.int i5), s6, .val (.int i7), .val (.int i8), .unset, .unset] [])) _
  refine XS.iconst X0.here hx rfl (hb hby at_53) ?_
  show Steps p.tables e below (T0.setTop (mkF m 54 #[s0, s1, s2, .val (.int i3), .val (.int i4), .val (.int i5), s6, .val (.int i7), .val (.int i8), .unset, .unset] [(.int (0 : Int32))])) _
  refine XS.iload X0.here hx rfl (hb hby at_54) rfl ?_
  show Steps p.tables e below (T0.setTop (mkF m 56 #[s0, s1, s2, .val (.int i3), .val (.int i4), .val (.int i5), s6, .val (.int i7), .val (.int i8), .unset, .unset] [(.int i7), (.int (0 : Int32))])) _
  refine XS.icmpNo X0.here hx rfl (hb hby at_56) rfl (flt hc56).2.2.1 ?_
  show Steps p.tables e below (T0.setTop (mkF m 59 #[s0, s1, s2, .val (.int i3), .val (.int i4), .val (.int i5), s6, .val (.int i7), .val (.int i8), .unset, .unset] [])) _
  refine XS.iload X0.here hx rfl (hb hby at_59) rfl ?_
  show Steps p.tables e below (T0.setTop (mkF m 61 #[s0, s1, s2, .val (.int i3), .val (.int i4), .val (.int i5), s6, .val (.int i7), .val (.int i8), .unset, .unset] [(.int i7)])) _
  refine XS.iloadN X0.here hx rfl (hb hby at_61) rfl ?_
  show Steps p.tables e below (T0.setTop (mkF m 62 #[s0, s1, s2, .val (.int i3), .val (.int i4), .val (.int i5), s6, .val (.int i7), .val (.int i8), .unset, .unset] [(.int i3), (.int i7)])) _
  refine XS.icmpNo X0.here hx rfl (hb hby at_62) rfl (tlt hc62).2.1 ?_
  show Steps p.tables e below (T0.setTop (mkF m 65 #[s0, s1, s2, .val (.int i3), .val (.int i4), .val (.int i5), s6, .val (.int i7), .val (.int i8), .unset, .unset] [])) _
  refine XS.iconst X0.here hx rfl (hb hby at_65) ?_
  show Steps p.tables e below (T0.setTop (mkF m 66 #[s0, s1, s2, .val (.int i3), .val (.int i4), .val (.int i5), s6, .val (.int i7), .val (.int i8), .unset, .unset] [(.int (0 : Int32))])) _
  refine XS.iload X0.here hx rfl (hb hby at_66) rfl ?_
  show Steps p.tables e below (T0.setTop (mkF m 68 #[s0, s1, s2, .val (.int i3), .val (.int i4), .val (.int i5), s6, .val (.int i7), .val (.int i8), .unset, .unset] [(.int i8), (.int (0 : Int32))])) _
  refine XS.icmpNo X0.here hx rfl (hb hby at_68) rfl (flt hc68).2.2.1 ?_
  show Steps p.tables e below (T0.setTop (mkF m 71 #[s0, s1, s2, .val (.int i3), .val (.int i4), .val (.int i5), s6, .val (.int i7), .val (.int i8), .unset, .unset] [])) _
  refine XS.iload X0.here hx rfl (hb hby at_71) rfl ?_
  show Steps p.tables e below (T0.setTop (mkF m 73 #[s0, s1, s2, .val (.int i3), .val (.int i4), .val (.int i5), s6, .val (.int i7), .val (.int i8), .unset, .unset] [(.int i8)])) _
  refine XS.iloadN X0.here hx rfl (hb hby at_73) rfl ?_
  show Steps p.tables e below (T0.setTop (mkF m 74 #[s0, s1, s2, .val (.int i3), .val (.int i4), .val (.int i5), s6, .val (.int i7), .val (.int i8), .unset, .unset] [(.int i3), (.int i8)])) _
  refine XS.icmpNo X0.here hx rfl (hb hby at_74) rfl (tlt hc74).2.1 ?_
  show Steps p.tables e below (T0.setTop (mkF m 77 #[s0, s1, s2, .val (.int i3), .val (.int i4), .val (.int i5), s6, .val (.int i7), .val (.int i8), .unset, .unset] [])) _
  refine XS.iconst X0.here hx rfl (hb hby at_77) ?_
  show Steps p.tables e below (T0.setTop (mkF m 78 #[s0, s1, s2, .val (.int i3), .val (.int i4), .val (.int i5), s6, .val (.int i7), .val (.int i8), .unset, .unset] [(.int (1 : Int32))])) _
  refine XS.goto X0.here hx rfl (pc0 := 78) (pc' := 82) rfl (hb hby at_78) (by decide) (by decide) ?_
  show Steps p.tables e below (T0.setTop (mkF m 82 #[s0, s1, s2, .val (.int i3), .val (.int i4), .val (.int i5), s6, .val (.int i7), .val (.int i8), .unset, .unset] [(.int (1 : Int32))])) _
  refine XS.istore X0.here hx rfl (hb hby at_82) rfl (l' := #[s0, s1, s2, .val (.int i3), .val (.int i4), .val (.int i5), s6, .val (.int i7), .val (.int i8), .val (.int (1 : Int32)), .unset]) (os0_82 hs9) ?_
  show Steps p.tables e below (T0.setTop (mkF m 84 #[s0, s1, s2, .val (.int i3), .val (.int i4), .val (.int i5), s6, .val (.int i7), .val (.int i8), .val (.int (1 : Int32)), .unset] [])) _
  refine XS.iload X0.here hx rfl (hb hby at_84) rfl ?_
  show Steps p.tables e below (T0.setTop (mkF m 86 #[s0, s1, s2, .val (.int i3), .val (.int i4), .val (.int i5), s6, .val (.int i7), .val (.int i8), .val (.int (1 : Int32)), .unset] [(.int i4)])) _
  refine XS.iload X0.here hx rfl (hb hby at_86) rfl ?_
  show Steps p.tables e below (T0.setTop (mkF m 88 #[s0, s1, s2, .val (.int i3), .val (.int i4), .val (.int i5), s6, .val (.int i7), .val (.int i8), .val (.int (1 : Int32)), .unset] [(.int i5), (.int i4)])) _
  refine XS.icmpYes X0.here hx rfl (pc0 := 88) (pc' := 95) rfl (hb hby at_88) rfl (feq hc88).2 (by decide) (by decide) ?_
  show Steps p.tables e below (T0.setTop (mkF m 95 #[s0, s1, s2, .val (.int i3), .val (.int i4), .val (.int i5), s6, .val (.int i7), .val (.int i8), .val (.int (1 : Int32)), .unset] [])) _
  refine XS.iconst X0.here hx rfl (hb hby at_95) ?_
  show Steps p.tables e below (T0.setTop (mkF m 96 #[s0, s1, s2, .val (.int i3), .val (.int i4), .val (.int i5), s6, .val (.int i7), .val (.int i8), .val (.int (1 : Int32)), .unset] [(.int (0 : Int32))])) _
  refine XS.iload X0.here hx rfl (hb hby at_96) rfl ?_
  show Steps p.tables e below (T0.setTop (mkF m 98 #[s0, s1, s2, .val (.int i3), .val (.int i4), .val (.int i5), s6, .val (.int i7), .val (.int i8), .val (.int (1 : Int32)), .unset] [(.int i7), (.int (0 : Int32))])) _
  refine XS.iload X0.here hx rfl (hb hby at_98) rfl ?_
  show Steps p.tables e below (T0.setTop (mkF m 100 #[s0, s1, s2, .val (.int i3), .val (.int i4), .val (.int i5), s6, .val (.int i7), .val (.int i8), .val (.int (1 : Int32)), .unset] [(.int i8), (.int i7), (.int (0 : Int32))])) _
  refine XS.icmpYes X0.here hx rfl (pc0 := 100) (pc' := 107) rfl (hb hby at_100) rfl (feq hc100).2 (by decide) (by decide) ?_
  show Steps p.tables e below (T0.setTop (mkF m 107 #[s0, s1, s2, .val (.int i3), .val (.int i4), .val (.int i5), s6, .val (.int i7), .val (.int i8), .val (.int (1 : Int32)), .unset] [(.int (0 : Int32))])) _
  refine XS.iconst X0.here hx rfl (hb hby at_107) ?_
  show Steps p.tables e below (T0.setTop (mkF m 108 #[s0, s1, s2, .val (.int i3), .val (.int i4), .val (.int i5), s6, .val (.int i7), .val (.int i8), .val (.int (1 : Int32)), .unset] [(.int (0 : Int32)), (.int (0 : Int32))])) _
  refine XS.icmpNo X0.here hx rfl (hb hby at_108) rfl (teq (rfl : (0 : Int32) = (0 : Int32))).2 ?_
  show Steps p.tables e below (T0.setTop (mkF m 111 #[s0, s1, s2, .val (.int i3), .val (.int i4), .val (.int i5), s6, .val (.int i7), .val (.int i8), .val (.int (1 : Int32)), .unset] [])) _
  refine XS.iconst X0.here hx rfl (hb hby at_111) ?_
  show Steps p.tables e below (T0.setTop (mkF m 112 #[s0, s1, s2, .val (.int i3), .val (.int i4), .val (.int i5), s6, .val (.int i7), .val (.int i8), .val (.int (1 : Int32)), .unset] [(.int (1 : Int32))])) _
  refine XS.goto X0.here hx rfl (pc0 := 112) (pc' := 116) rfl (hb hby at_112) (by decide) (by decide) ?_
  show Steps p.tables e below (T0.setTop (mkF m 116 #[s0, s1, s2, .val (.int i3), .val (.int i4), .val (.int i5), s6, .val (.int i7), .val (.int i8), .val (.int (1 : Int32)), .unset] [(.int (1 : Int32))])) _
  refine XS.istore X0.here hx rfl (hb hby at_116) rfl (l' := #[s0, s1, s2, .val (.int i3), .val (.int i4), .val (.int i5), s6, .val (.int i7), .val (.int i8), .val (.int (1 : Int32)), .val (.int (1 : Int32))]) (os0_116 hs10) ?_
  show Steps p.tables e below (T0.setTop (mkF m 118 #[s0, s1, s2, .val (.int i3), .val (.int i4), .val (.int i5), s6, .val (.int i7), .val (.int i8), .val (.int (1 : Int32)), .val (.int (1 : Int32))] [])) _
  refine XS.iload X0.here hx rfl (hb hby at_118) rfl ?_
  show Steps p.tables e below (T0.setTop (mkF m 120 #[s0, s1, s2, .val (.int i3), .val (.int i4), .val (.int i5), s6, .val (.int i7), .val (.int i8), .val (.int (1 : Int32)), .val (.int (1 : Int32))] [(.int (1 : Int32))])) _
  refine XS.ifNo X0.here hx rfl (hb hby at_120) rfl ((if0 _ _).trans (feq hc120).1) ?_
  show Steps p.tables e below (T0.setTop (mkF m 123 #[s0, s1, s2, .val (.int i3), .val (.int i4), .val (.int i5), s6, .val (.int i7), .val (.int i8), .val (.int (1 : Int32)), .val (.int (1 : Int32))] [])) _
  refine XS.iload X0.here hx rfl (hb hby at_123) rfl ?_
  show Steps p.tables e below (T0.setTop (mkF m 125 #[s0, s1, s2, .val (.int i3), .val (.int i4), .val (.int i5), s6, .val (.int i7), .val (.int i8), .val (.int (1 : Int32)), .val (.int (1 : Int32))] [(.int (1 : Int32))])) _
  refine XS.ifNo X0.here hx rfl (hb hby at_125) rfl ((if0 _ _).trans (feq hc125).1) ?_
  show Steps p.tables e below (T0.setTop (mkF m 128 #[s0, s1, s2, .val (.int i3), .val (.int i4), .val (.int i5), s6, .val (.int i7), .val (.int i8), .val (.int (1 : Int32)), .val (.int (1 : Int32))] [])) _
  refine XS.iconst X0.here hx rfl (hb hby at_128) ?_
  show Steps p.tables e below (T0.setTop (mkF m 129 #[s0, s1, s2, .val (.int i3), .val (.int i4), .val (.int i5), s6, .val (.int i7), .val (.int i8), .val (.int (1 : Int32)), .val (.int (1 : Int32))] [(.int (1 : Int32))])) _
  refine XS.goto X0.here hx rfl (pc0 := 129) (pc' := 133) rfl (hb hby at_129) (by decide) (by decide) ?_
  exact kt
theorem pn_0 : plainName "com/example/syncline/syncline/client/bench/ScatterApplyPinLaw" = true := by first | (simp [plainName, overriddenIn]; done) | decide +kernel
theorem ef_0 (m : MethodId) (x0 : Int32) (x1 : Int32) (x2 : Int32) : entryFrame m #[(.int x0), (.int x1), (.int x2)] maxLocals = mkF m 0 #[.val (.int x0), .val (.int x1), .val (.int x2), .unset, .unset, .unset, .unset, .unset, .unset, .unset, .unset] [] := by first | (simp [entryFrame, mkF, argsToLocals, Value.category, maxLocals]; done) | rfl

set_option maxRecDepth 65536 in
set_option maxHeartbeats 40000000 in
theorem rm0 (l : Launch) (Z : State) (a0 : Array Value) (hw : ∀ d ∈ tables_1, d.before a0 Z = true) (ws : List Jvm.Cond) (p1 : Int32) (p2 : Int32) (p3 : Int32) (h0 : Heap) (n0 : Nat) (Z0 : n0 ≤ h0.size) :
    MetFree l x (head1 (Jvm.Cond.code x code maxLocals ret :: ws) room_1) (fun a U => a = #[(.int p1), (.int p2), (.int p3)] ∧ Z.Warmed39 U.vm ∧ U.heap = h0) (fun _ _ _ _ _ => True) (fun _ U o U' => ∃ v L, o = .returned v ∧ (v = some (.int 1) ∧ Fr n0 L) ∧ FrameEnd U o U' L room_1.cells room_1.slots) := by
  refine MetFree.of_bodySF (plainFor_of_name pn_0) hisR ?_
  intro p e s m args below meth c s₁ Bd hml0 hP hK
  obtain ⟨rfl, hZ, hh⟩ := hP
  have hx := Bd.exec
  have hby := Bd.bytes
  have hml : c.maxLocals = 11 := hml0
  have hown : s.vm.findClass "com/example/syncline/syncline/client/bench/ScatterApplyPinLaw" = some m.cls := findClass_of_methodNamed Bd.named
  have hnm := (name_of_methodNamed Bd.named Bd.method).1
  have X0 : Stand p l e room_1 s m #[(.int p1), (.int p2), (.int p3)] below meth c s₁ [] 0 0 := Stand.of_body Bd
  have e0 : s₁.heap = h0 := by rw [← hh, Bd.state]; rfl
  have N0 := Fr.nil n0
  have pre0 : ∀ t, Steps p.tables e below (s₁.setTop (mkF m 0 #[.val (.int p1), .val (.int p2), .val (.int p3), .unset, .unset, .unset, .unset, .unset, .unset, .unset, .unset] [])) t → Steps p.tables e below (s₁.setTop (entryFrame m #[(.int p1), (.int p2), (.int p3)] maxLocals)) t := fun t k => castTop (ef_0 m p1 p2 p3) k
  obtain ⟨cN, h1c, hc, ec⟩ := own_cnt p1
  obtain ⟨aN, ha, ea⟩ := own_modn p2 h1c hc
  obtain ⟨bN, hbN, ebN⟩ := own_modn p3 h1c hc
  have hh' := (own_h_lt cN).1
  have hok := own_h_ok hc h1c
  have hin := fun v hv => own_P_in (v := v) hh' (own_F_lt hh') hv
  have hinj := fun v w hv hw => own_P_inj (v := v) (w := w) hh' (own_F_lt hh') hv hw
  have na : own_n (Int32.ofNat aN).toInt64 < 2 ^ (2 * own_h cN) := by rw [own_i2l (by omega), own_n64 (by omega)]; omega
  have nbn : own_n (Int32.ofNat bN).toInt64 < 2 ^ (2 * own_h cN) := by rw [own_i2l (by omega), own_n64 (by omega)]; omega
  have la : (Int32.ofNat aN).toInt64 < Int64.ofNat cN := by rw [own_i2l (by omega), Int64.lt_iff_toInt_lt, own_i64 (by omega), own_i64 hc]; omega
  have lb : (Int32.ofNat bN).toInt64 < Int64.ofNat cN := by rw [own_i2l (by omega), Int64.lt_iff_toInt_lt, own_i64 (by omega), own_i64 hc]; omega
  have ba : ∃ n, own_it (own_P (own_F (own_hm (Int32.ofNat (own_h cN)))) (Int32.ofNat (own_h cN))) (n + 1) (Int32.ofNat aN).toInt64 < Int64.ofNat cN := by
    obtain ⟨n, en⟩ := own_back hin hinj na; exact ⟨n, by rw [en]; exact la⟩
  have bb : ∃ n, own_it (own_P (own_F (own_hm (Int32.ofNat (own_h cN)))) (Int32.ofNat (own_h cN))) (n + 1) (Int32.ofNat bN).toInt64 < Int64.ofNat cN := by
    obtain ⟨n, en⟩ := own_back hin hinj nbn; exact ⟨n, by rw [en]; exact lb⟩
  obtain ⟨T1, h1, l1, X1, e1, N1, Z1, q1_, st1⟩ := tn0_0_25 p1 p2 p3 X0 hx hZ hw hby hml hown e0 N0 Z0 One.u One.u One.u (by rw [ec]; exact own_nz h1c hc) (by rw [ec]; exact own_nz h1c hc)
  rw [ec, ea, ebN] at st1
  obtain ⟨b, ka, kb, T2, h2, l2, X2, e2, N2, Z2, ⟨hka, hja, hkb, hjb⟩, st2⟩ := tn0_25_53 (.val (.int p1)) (.val (.int p2)) (.val (.int p3)) (Int32.ofNat cN) (Int32.ofNat aN) (Int32.ofNat bN) cN hc h1c X1 hx hZ hw hby hml hown e1 N1 Z1 One.u One.u One.u rfl ba bb
  obtain ⟨fa1, fa2⟩ := own_fin hh' hc (own_it_in hin (ka + 1) _ na) hka
  obtain ⟨fb1, fb2⟩ := own_fin hh' hc (own_it_in hin (kb + 1) _ nbn) hkb
  have qd : own_n (own_it (own_P (own_F (own_hm (Int32.ofNat (own_h cN)))) (Int32.ofNat (own_h cN))) (ka + 1) (Int32.ofNat aN).toInt64) = own_n (own_it (own_P (own_F (own_hm (Int32.ofNat (own_h cN)))) (Int32.ofNat (own_h cN))) (kb + 1) (Int32.ofNat bN).toInt64) → aN = bN := fun z => by
    have z2 := own_first hin hinj na nbn la lb hja hjb (own_n_inj z)
    rw [own_i2l (by omega), own_i2l (by omega)] at z2
    have := congrArg own_n z2
    rw [own_n64 (by omega), own_n64 (by omega)] at this; exact this
  obtain ⟨T3, X3, e3, st3⟩ : ∃ (T' : State), Stand p l e room_1 s m #[(.int p1), (.int p2), (.int p3)] below meth c T' l2 (0 + 1) (0 + 3) ∧ T'.heap = h2 ∧ ∀ target, Steps p.tables e below (T'.setTop (mkF m 133 #[.val (.int p1), .val (.int p2), .val (.int p3), .val (.int (Int32.ofNat cN)), .val (.int (Int32.ofNat aN)), .val (.int (Int32.ofNat bN)), .val (.ref b), .val (.int (own_it (own_P (own_F (own_hm (Int32.ofNat (own_h cN)))) (Int32.ofNat (own_h cN))) (ka + 1) (Int32.ofNat aN).toInt64).toInt32), .val (.int (own_it (own_P (own_F (own_hm (Int32.ofNat (own_h cN)))) (Int32.ofNat (own_h cN))) (kb + 1) (Int32.ofNat bN).toInt64).toInt32), .val (.int (1 : Int32)), .val (.int (1 : Int32))] [(.int (1 : Int32))])) target → Steps p.tables e below (T2.setTop (mkF m 53 #[.val (.int p1), .val (.int p2), .val (.int p3), .val (.int (Int32.ofNat cN)), .val (.int (Int32.ofNat aN)), .val (.int (Int32.ofNat bN)), .val (.ref b), .val (.int (own_it (own_P (own_F (own_hm (Int32.ofNat (own_h cN)))) (Int32.ofNat (own_h cN))) (ka + 1) (Int32.ofNat aN).toInt64).toInt32), .val (.int (own_it (own_P (own_F (own_hm (Int32.ofNat (own_h cN)))) (Int32.ofNat (own_h cN))) (kb + 1) (Int32.ofNat bN).toInt64).toInt32), .unset, .unset] [])) target := by
    by_cases q : aN = bN
    · have qn : own_n (own_it (own_P (own_F (own_hm (Int32.ofNat (own_h cN)))) (Int32.ofNat (own_h cN))) (ka + 1) (Int32.ofNat aN).toInt64) = own_n (own_it (own_P (own_F (own_hm (Int32.ofNat (own_h cN)))) (Int32.ofNat (own_h cN))) (kb + 1) (Int32.ofNat bN).toInt64) := by
        have e : ka = kb := by
          subst q
          rcases Nat.lt_trichotomy ka kb with z | z | z
          · exact absurd hka (hjb ka z)
          · exact z
          · exact absurd hkb (hja kb z)
        rw [e, q]
      exact own_same (.val (.int p1)) (.val (.int p2)) (.val (.int p3)) (Int32.ofNat cN) (Int32.ofNat aN) (Int32.ofNat bN) (.val (.ref b)) (own_it (own_P (own_F (own_hm (Int32.ofNat (own_h cN)))) (Int32.ofNat (own_h cN))) (ka + 1) (Int32.ofNat aN).toInt64).toInt32 (own_it (own_P (own_F (own_hm (Int32.ofNat (own_h cN)))) (Int32.ofNat (own_h cN))) (kb + 1) (Int32.ofNat bN).toInt64).toInt32 X2 hx hZ hw hby hml hown e2 One.u One.u (by rw [fa2]; exact own_nneg (by omega)) (by rw [fa2, own_ltn (by omega) hc]; exact fa1) (by rw [fb2]; exact own_nneg (by omega)) (by rw [fb2, own_ltn (by omega) hc]; exact fb1) (by rw [q]) (by rw [fa2, fb2, qn]) (by decide) (by decide)
    · exact own_diff (.val (.int p1)) (.val (.int p2)) (.val (.int p3)) (Int32.ofNat cN) (Int32.ofNat aN) (Int32.ofNat bN) (.val (.ref b)) (own_it (own_P (own_F (own_hm (Int32.ofNat (own_h cN)))) (Int32.ofNat (own_h cN))) (ka + 1) (Int32.ofNat aN).toInt64).toInt32 (own_it (own_P (own_F (own_hm (Int32.ofNat (own_h cN)))) (Int32.ofNat (own_h cN))) (kb + 1) (Int32.ofNat bN).toInt64).toInt32 X2 hx hZ hw hby hml hown e2 One.u One.u (by rw [fa2]; exact own_nneg (by omega)) (by rw [fa2, own_ltn (by omega) hc]; exact fa1) (by rw [fb2]; exact own_nneg (by omega)) (by rw [fb2, own_ltn (by omega) hc]; exact fb1) (fun z => q (own_inj32 (by omega) (by omega) z)) (fun z => q (qd (by rw [fa2, fb2] at z; exact own_inj32 (by omega) (by omega) z))) (by decide) (by decide)
  obtain ⟨fs, hr, hrun, hended, hW, hsame⟩ := X3.leave (v := some (.int (1 : Int32))) (fun h => by rw [Bd.returns] at h; cases h)
  refine ⟨_, _, pre0 _ ?_, hrun, hended, _, _, rfl, ⟨rfl, N2⟩, ⟨_, rfl⟩, hW, hsame.mono (by decide) (by decide)⟩
  exact st1 _ (st2 _ (st3 _ (retN X3 hx (t := .boolean) Bd.returns (by simp) (hb hby at_133) hr)))
set_option maxRecDepth 65536 in
set_option maxHeartbeats 40000000 in
theorem comes_1 {Post : Tables → Env → Array Value → State → Outcome → State → Prop} (hpost : ∀ tb e args s v u, (limb_1_1.after args s (.returned v) u = true ∧ limb_1_2.after args s (.returned v) u = true ∧ True) → FrameEnd s (.returned v) u (Jvm.fieldLocs frame_1_writes args s ++ Jvm.arrayLocs frame_1_arrays args s ++ Jvm.staticLocs frame_1_statics s) 16 128 → Post tb e args s (.returned v) u) :
    ArmFor flags0 classFile x code maxLocals ret World_1 tables_1 room_1 Calls_1 rest_1 Pre_1 Post := by
  intro l hfl _ _ p e ha hc hk s m args below hf hA hF happ hP
  obtain ⟨hcalls, hrest, hpre⟩ := hP
  obtain ⟨-, -, -, hnamed, -, -, -, hat⟩ := (Spec.applies_iff hf).mp happ
  obtain ⟨hg, hn⟩ := and_e (Cond.before_iff.mp (show (Jvm.Cond.and given_1 narrow_1).before args s = true from hpre))
  obtain ⟨g9, g10⟩ := and_e hg
  obtain ⟨g11, g12⟩ := and_e g10
  obtain ⟨g13, g14⟩ := and_e g12
  obtain ⟨w0, w1, w2, rfl⟩ : ∃ w0 w1 w2 : Value, args = #[w0, w1, w2] := by
    have hs : args.size = 3 := by simpa [Cond.value, given_1] using g9
    obtain ⟨L⟩ := args
    match L, hs with
    | [w0, w1, w2], _ => exact ⟨w0, w1, w2, rfl⟩
  have hw := fun d (hd : d ∈ tables_1) => atoms_spec (ws := Jvm.Cond.code x code maxLocals ret :: tables_1) hat d (List.mem_cons_of_mem _ hd)
  have hfit : Fit s := fun {y c} hc i hi => by
    obtain ⟨ha, rfl⟩ := Array.getElem?_eq_some_iff.mp hc
    have q := List.all_eq_true.mp ((Array.all_eq_true_iff_forall_mem.mp hF) _ (Array.getElem_mem ha)) i (List.mem_range.mpr hi)
    simpa [Array.getElem?_eq_getElem hi] using q
  obtain ⟨i0, ei0⟩ := is_v g11
  obtain rfl : w0 = (.int i0) := Option.some.inj ei0
  obtain ⟨i1, ei1⟩ := is_v g13
  obtain rfl : w1 = (.int i1) := Option.some.inj ei1
  obtain ⟨i2, ei2⟩ := is_v g14
  obtain rfl : w2 = (.int i2) := Option.some.inj ei2
  have all : MetFree l x (head1 (Jvm.Cond.code x code maxLocals ret :: tables_1) room_1) (fun a U => a = #[(.int i0), (.int i1), (.int i2)] ∧ s.Warmed39 U.vm ∧ U.heap = s.heap) (fun _ _ _ _ _ => True) (fun _ U o U' => ∃ v L, o = .returned v ∧ (v = some (.int 1) ∧ Fr s.heap.size L) ∧ FrameEnd U o U' L room_1.cells room_1.slots) := by
    exact rm0 l s _ hw tables_1 i0 i1 i2 s.heap s.heap.size (Nat.le_refl _)
  obtain ⟨n, o, h1, h2, h3, _, L, rfl, ⟨rfl, N⟩, hq⟩ := all p e ha hc hk s m _ below hf ((Spec.applies_iff_loose hf).mp happ).1 ⟨rfl, State.Warmed39.refl s, rfl⟩ trivial
  refine ⟨n, _, h1, h2, h3, hpost _ _ _ _ _ _ ⟨Cond.after_iff.mpr rfl, Cond.after_iff.mpr (eq_i res_at (Term.int_eval (1)) rfl), trivial⟩ ⟨hq.1, hq.2.1, (hq.2.2.sift fun y hy => Or.inr (N y hy)).mono (by decide) (by decide)⟩⟩
theorem main_1_1 : Claimed_1_1 := comes_1 fun _ _ _ _ _ _ h hF => ⟨h.1, hF⟩
theorem main_1_2 : Claimed_1_2 := comes_1 fun _ _ _ _ _ _ h hF => ⟨h.2.1, hF⟩
end Jvm.Pilot.@@N@@
namespace Jvm.Pilot.@@N@@
open Jvm Jvm.ClassFile Sem Op Lib Jvm.Free Jvm.Stand Jvm.Pilot.@@N@@.Jvm.D
/-! MADE BY PROGRAM (witnessworld.py) out of the Statement's table words and the real class files: 16 classes; the members and pool entries that the words name. The judged class is class 1, her method 1. -/
namespace start1
open Jvm.ClassFile
def u (s : String) : CpInfo := .utf8 (stringToUtf16 s)
/-- a pool by its gaps: so many unusable entries, then the entry; so many at the end -/
def gap : Nat → List CpInfo → List CpInfo
  | 0, r => r
  | n + 1, r => .unusable :: gap n r
def poolList (es : List (Nat × CpInfo)) (last : Nat) : List CpInfo := es.foldr (fun e r => gap e.1 (e.2 :: r)) (gap last [])
def pool (es : List (Nat × CpInfo)) (last : Nat) : Array CpInfo := ⟨poolList es last⟩
def fileOf (pool : Array CpInfo) (this : Nat) (attrs : Array Attribute := #[]) (ms : Array MethodInfo := #[]) (fl : Nat := 33) (sup : Nat := 0) (ifs : Array Nat := #[]) (fds : Array FieldInfo := #[]) : ClassFile where
  minorVersion := 0
  majorVersion := 65
  constantPool := pool
  accessFlags := fl
  thisClass := this
  superClass := sup
  interfaces := ifs
  fields := fds
  methods := ms
  attributes := attrs
def plain (name : String) (sup : Option ClassId) : Class where
  name := name
  kind := .ordinary
  loader := none
  accessFlags := 33
  super := sup
  interfaces := #[]
  cf := none
  fields := #[]
  methods := #[]
  instanceTypes := #[]
  staticTypes := #[]
  resolved := #[]
  callSites := []
  init := .initialized
  statics := none
  mirror := none

def pool0 : Array CpInfo := pool [(5, u "<init>"), (0, u "()V"), (1, .class_ 10), (1, u "java/lang/Object")] 113

def k0c0 : Code := { maxStack := 0, maxLocals := 1, code := object_method_1_code, exceptionTable := #[], attributes := #[] }
def k0m0 : Method := { name := "<init>", desc := "()V", sig := { parameters := [], returnType := none }, accessFlags := 1, code := some k0c0 }
/-- java/lang/Object -/
def k0 : Class := { plain "java/lang/Object" none with
  accessFlags := 33
  interfaces := #[]
  cf := some (fileOf pool0 8 #[] #[{ accessFlags := 1, nameIndex := 5, descriptorIndex := 6, attributes := #[] }] 33 0 #[] #[])
  fields := #[]
  methods := #[k0m0]
  instanceTypes := #[]
  staticTypes := #[]
  resolved := Array.replicate 124 none
  statics := none }

def pool1 : Array CpInfo := pool [(2, .class_ 4), (1, u "java/lang/Object"), (0, u "<init>"), (0, u "()V"), (0, .integer 2147483647), (0, .methodref 9 10), (0, .class_ 11), (0, .nameAndType 12 13), (0, u "java/lang/Math"), (0, u "max"), (0, u "(II)I"), (0, .class_ 15), (0, u "com/example/syncline/syncline/client/bench/Scatter"), (0, .methodref 14 17), (0, .nameAndType 5 18), (0, u "(I)V"), (0, .methodref 14 20), (0, .nameAndType 21 22), (0, u "apply"), (0, u "(I)I"), (0, .class_ 24), (0, u "com/example/syncline/syncline/client/bench/ScatterApplyPinLaw"), (2, u "law"), (0, u "(III)Z")] 3

def k1m0 : Method := { name := "<init>", desc := "()V", sig := { parameters := [], returnType := none }, accessFlags := 1, code := none }
def k1c1 : Code := { maxStack := 3, maxLocals := 11, code := code, exceptionTable := #[], attributes := #[] }
def k1m1 : Method := { name := "law", desc := "(III)Z", sig := { parameters := [.int, .int, .int], returnType := some .boolean }, accessFlags := 9, code := some k1c1 }
/-- com/example/syncline/syncline/client/bench/ScatterApplyPinLaw -/
def k1 : Class := { plain "com/example/syncline/syncline/client/bench/ScatterApplyPinLaw" (some 0) with
  accessFlags := 49
  interfaces := #[]
  cf := some (fileOf pool1 23 #[] #[{ accessFlags := 1, nameIndex := 5, descriptorIndex := 6, attributes := #[] }, { accessFlags := 9, nameIndex := 27, descriptorIndex := 28, attributes := #[] }] 49 2 #[] #[])
  fields := #[]
  methods := #[k1m0, k1m1]
  instanceTypes := #[]
  staticTypes := #[]
  resolved := Array.replicate 32 none
  statics := none }

def pool2 : Array CpInfo := pool [(1, .class_ 2), (0, u "java/lang/Math"), (1, .class_ 6), (1, u "java/lang/Object"), (0, u "<init>"), (0, u "()V"), (89, .class_ 100), (1, u "java/lang/Math$RandomNumberGeneratorHolder"), (71, u "negativeZeroFloatBits"), (0, u "J"), (2, u "negativeZeroDoubleBits"), (21, u "max"), (46, u "$assertionsDisabled"), (0, u "Z"), (88, u "(II)I"), (2, u "twoToTheDoubleScaleDown"), (0, u "D"), (4, u "twoToTheDoubleScaleUp"), (9, u "E"), (3, u "PI"), (2, u "TAU"), (2, u "DEGREES_TO_RADIANS"), (0, u "RADIANS_TO_DEGREES")] 94

def k2m0 : Method := { name := "<init>", desc := "()V", sig := { parameters := [], returnType := none }, accessFlags := 2, code := none }
def k2c1 : Code := { maxStack := 2, maxLocals := 2, code := jdk_29_method_65_code, exceptionTable := #[], attributes := #[] }
def k2m1 : Method := { name := "max", desc := "(II)I", sig := { parameters := [.int, .int], returnType := some .int }, accessFlags := 9, code := some k2c1 }
/-- java/lang/Math -/
def k2 : Class := { plain "java/lang/Math" (some 0) with
  accessFlags := 49
  interfaces := #[]
  cf := some (fileOf pool2 1 #[.nestMembers #[98]] #[{ accessFlags := 2, nameIndex := 7, descriptorIndex := 8, attributes := #[] }, { accessFlags := 9, nameIndex := 198, descriptorIndex := 335, attributes := #[] }] 49 4 #[] #[{ accessFlags := 25, nameIndex := 354, descriptorIndex := 339, attributes := #[] }, { accessFlags := 25, nameIndex := 358, descriptorIndex := 339, attributes := #[] }, { accessFlags := 25, nameIndex := 361, descriptorIndex := 339, attributes := #[] }, { accessFlags := 26, nameIndex := 364, descriptorIndex := 339, attributes := #[] }, { accessFlags := 26, nameIndex := 365, descriptorIndex := 339, attributes := #[] }, { accessFlags := 26, nameIndex := 172, descriptorIndex := 173, attributes := #[] }, { accessFlags := 26, nameIndex := 176, descriptorIndex := 173, attributes := #[] }, { accessFlags := 8, nameIndex := 344, descriptorIndex := 339, attributes := #[] }, { accessFlags := 8, nameIndex := 338, descriptorIndex := 339, attributes := #[] }, { accessFlags := 4120, nameIndex := 245, descriptorIndex := 246, attributes := #[] }])
  fields := #[{ name := "E", type := .double, accessFlags := 25, slot := 0, constantValue := 0 }, { name := "PI", type := .double, accessFlags := 25, slot := 1, constantValue := 0 }, { name := "TAU", type := .double, accessFlags := 25, slot := 2, constantValue := 0 }, { name := "DEGREES_TO_RADIANS", type := .double, accessFlags := 26, slot := 3, constantValue := 0 }, { name := "RADIANS_TO_DEGREES", type := .double, accessFlags := 26, slot := 4, constantValue := 0 }, { name := "negativeZeroFloatBits", type := .long, accessFlags := 26, slot := 5, constantValue := 0 }, { name := "negativeZeroDoubleBits", type := .long, accessFlags := 26, slot := 6, constantValue := 0 }, { name := "twoToTheDoubleScaleUp", type := .double, accessFlags := 8, slot := 7, constantValue := 0 }, { name := "twoToTheDoubleScaleDown", type := .double, accessFlags := 8, slot := 8, constantValue := 0 }, { name := "$assertionsDisabled", type := .boolean, accessFlags := 4120, slot := 9, constantValue := 0 }]
  methods := #[k2m0, k2m1]
  instanceTypes := #[]
  staticTypes := #[.double, .double, .double, .double, .double, .long, .long, .double, .double, .boolean]
  resolved := Array.replicate 460 none
  statics := none }

def pool3 : Array CpInfo := pool [(1, .methodref 2 3), (0, .class_ 4), (0, .nameAndType 5 6), (0, u "java/lang/Object"), (0, u "<init>"), (0, u "()V"), (9, .fieldref 17 18), (0, .class_ 19), (0, .nameAndType 20 21), (0, u "com/example/syncline/syncline/client/bench/Scatter"), (0, u "count"), (0, u "J"), (0, .methodref 23 24), (0, .class_ 25), (0, .nameAndType 26 27), (0, u "java/lang/Long"), (0, u "numberOfLeadingZeros"), (0, u "(J)I"), (0, .methodref 29 30), (0, .class_ 31), (0, .nameAndType 32 33), (0, u "java/lang/Math"), (0, u "max"), (0, u "(II)I"), (0, .fieldref 17 35), (0, .nameAndType 36 37), (0, u "halfBits"), (0, u "I"), (0, .fieldref 17 39), (0, .nameAndType 40 21), (0, u "halfMask"), (0, .methodref 17 42), (0, .nameAndType 43 44), (0, u "permute"), (0, u "(J)J"), (0, .long 11400714819323198485), (1, .methodref 17 48), (0, .nameAndType 49 44), (0, u "mix"), (0, .long 18397679294719823053), (1, .long 14181476777654086739), (1, u "ROUNDS"), (2, u "(I)V"), (3, u "apply"), (0, u "(I)I")] 17

def k3c0 : Code := { maxStack := 5, maxLocals := 3, code := prog_29_method_1_code, exceptionTable := #[], attributes := #[] }
def k3m0 : Method := { name := "<init>", desc := "(I)V", sig := { parameters := [.int], returnType := none }, accessFlags := 0, code := some k3c0 }
def k3c1 : Code := { maxStack := 4, maxLocals := 4, code := prog_29_method_2_code, exceptionTable := #[], attributes := #[] }
def k3m1 : Method := { name := "apply", desc := "(I)I", sig := { parameters := [.int], returnType := some .int }, accessFlags := 0, code := some k3c1 }
def k3c2 : Code := { maxStack := 8, maxLocals := 10, code := prog_29_method_3_code, exceptionTable := #[], attributes := #[] }
def k3m2 : Method := { name := "permute", desc := "(J)J", sig := { parameters := [.long], returnType := some .long }, accessFlags := 2, code := some k3c2 }
def k3c3 : Code := { maxStack := 5, maxLocals := 4, code := prog_29_method_4_code, exceptionTable := #[], attributes := #[] }
def k3m3 : Method := { name := "mix", desc := "(J)J", sig := { parameters := [.long], returnType := some .long }, accessFlags := 10, code := some k3c3 }
/-- com/example/syncline/syncline/client/bench/Scatter -/
def k3 : Class := { plain "com/example/syncline/syncline/client/bench/Scatter" (some 0) with
  accessFlags := 48
  interfaces := #[]
  cf := some (fileOf pool3 17 #[] #[{ accessFlags := 0, nameIndex := 5, descriptorIndex := 57, attributes := #[] }, { accessFlags := 0, nameIndex := 61, descriptorIndex := 62, attributes := #[] }, { accessFlags := 2, nameIndex := 43, descriptorIndex := 44, attributes := #[] }, { accessFlags := 10, nameIndex := 49, descriptorIndex := 44, attributes := #[] }] 48 2 #[] #[{ accessFlags := 26, nameIndex := 54, descriptorIndex := 37, attributes := #[] }, { accessFlags := 18, nameIndex := 20, descriptorIndex := 21, attributes := #[] }, { accessFlags := 18, nameIndex := 36, descriptorIndex := 37, attributes := #[] }, { accessFlags := 18, nameIndex := 40, descriptorIndex := 21, attributes := #[] }])
  fields := #[{ name := "ROUNDS", type := .int, accessFlags := 26, slot := 0, constantValue := 0 }, { name := "count", type := .long, accessFlags := 18, slot := 0, constantValue := 0 }, { name := "halfBits", type := .int, accessFlags := 18, slot := 1, constantValue := 0 }, { name := "halfMask", type := .long, accessFlags := 18, slot := 2, constantValue := 0 }]
  methods := #[k3m0, k3m1, k3m2, k3m3]
  instanceTypes := #[.long, .int, .long]
  staticTypes := #[.int]
  resolved := Array.replicate 80 none
  statics := none }

def pool4 : Array CpInfo := pool [(1, .class_ 2), (0, u "java/io/Serializable"), (0, .class_ 4), (0, u "java/lang/Object")] 2

/-- java/io/Serializable -/
def k4 : Class := { plain "java/io/Serializable" (some 0) with
  accessFlags := 1537
  interfaces := #[]
  cf := some (fileOf pool4 1 #[] #[] 1537 3 #[] #[])
  fields := #[]
  methods := #[]
  instanceTypes := #[]
  staticTypes := #[]
  resolved := Array.replicate 7 none
  statics := none }

def pool5 : Array CpInfo := pool [(2, .class_ 4), (1, u "java/lang/Object"), (0, u "<init>"), (0, u "()V"), (1, .class_ 10), (1, u "java/lang/Number"), (2, .class_ 14), (0, u "java/io/Serializable"), (0, u "serialVersionUID"), (0, u "J")] 20

def k5m0 : Method := { name := "<init>", desc := "()V", sig := { parameters := [], returnType := none }, accessFlags := 1, code := none }
/-- java/lang/Number -/
def k5 : Class := { plain "java/lang/Number" (some 0) with
  accessFlags := 1057
  interfaces := #[4]
  cf := some (fileOf pool5 8 #[] #[{ accessFlags := 1, nameIndex := 5, descriptorIndex := 6, attributes := #[] }] 1057 2 #[13] #[{ accessFlags := 26, nameIndex := 15, descriptorIndex := 16, attributes := #[] }])
  fields := #[{ name := "serialVersionUID", type := .long, accessFlags := 26, slot := 0, constantValue := 0 }]
  methods := #[k5m0]
  instanceTypes := #[]
  staticTypes := #[.long]
  resolved := Array.replicate 37 none
  statics := none }

def pool6 : Array CpInfo := pool [(1, .class_ 2), (0, u "java/lang/Comparable"), (0, .class_ 4), (0, u "java/lang/Object")] 7

/-- java/lang/Comparable -/
def k6 : Class := { plain "java/lang/Comparable" (some 0) with
  accessFlags := 1537
  interfaces := #[]
  cf := some (fileOf pool6 1 #[] #[] 1537 3 #[] #[])
  fields := #[]
  methods := #[]
  instanceTypes := #[]
  staticTypes := #[]
  resolved := Array.replicate 12 none
  statics := none }

def pool7 : Array CpInfo := pool [(1, .class_ 2), (0, u "java/lang/constant/Constable"), (0, .class_ 4), (0, u "java/lang/Object")] 6

/-- java/lang/constant/Constable -/
def k7 : Class := { plain "java/lang/constant/Constable" (some 0) with
  accessFlags := 1537
  interfaces := #[]
  cf := some (fileOf pool7 1 #[] #[] 1537 3 #[] #[])
  fields := #[]
  methods := #[]
  instanceTypes := #[]
  staticTypes := #[]
  resolved := Array.replicate 11 none
  statics := none }

def pool8 : Array CpInfo := pool [(1, .class_ 2), (0, u "java/lang/constant/ConstantDesc"), (0, .class_ 4), (0, u "java/lang/Object")] 32

/-- java/lang/constant/ConstantDesc -/
def k8 : Class := { plain "java/lang/constant/ConstantDesc" (some 0) with
  accessFlags := 1537
  interfaces := #[]
  cf := some (fileOf pool8 1 #[] #[] 1537 3 #[] #[])
  fields := #[]
  methods := #[]
  instanceTypes := #[]
  staticTypes := #[]
  resolved := Array.replicate 37 none
  statics := none }

def pool9 : Array CpInfo := pool [(1, .class_ 2), (0, u "java/lang/Long"), (15, .class_ 20), (1, u "java/lang/Integer"), (79, u "numberOfLeadingZeros"), (0, u "(J)I"), (133, .class_ 237), (1, u "java/lang/Long$LongCache"), (33, .class_ 272), (0, u "java/lang/Number"), (2, u "value"), (0, u "J"), (31, .methodref 18 309), (0, .nameAndType 100 310), (0, u "(I)I"), (50, u "TYPE"), (0, u "Ljava/lang/Class;"), (0, .class_ 364), (0, u "java/lang/Comparable"), (0, .class_ 366), (0, u "java/lang/constant/Constable"), (0, .class_ 368), (0, u "java/lang/constant/ConstantDesc"), (0, u "MIN_VALUE"), (1, u "MAX_VALUE"), (4, u "SIZE"), (0, u "I"), (1, u "BYTES"), (1, u "serialVersionUID")] 142

def k9c0 : Code := { maxStack := 3, maxLocals := 3, code := jdk_35_method_48_code, exceptionTable := #[], attributes := #[] }
def k9m0 : Method := { name := "numberOfLeadingZeros", desc := "(J)I", sig := { parameters := [.long], returnType := some .int }, accessFlags := 9, code := some k9c0 }
/-- java/lang/Long -/
def k9 : Class := { plain "java/lang/Long" (some 5) with
  accessFlags := 49
  interfaces := #[6, 7, 8]
  cf := some (fileOf pool9 1 #[.nestMembers #[235]] #[{ accessFlags := 9, nameIndex := 100, descriptorIndex := 101, attributes := #[] }] 49 271 #[363, 365, 367] #[{ accessFlags := 25, nameIndex := 369, descriptorIndex := 276, attributes := #[] }, { accessFlags := 25, nameIndex := 371, descriptorIndex := 276, attributes := #[] }, { accessFlags := 25, nameIndex := 361, descriptorIndex := 362, attributes := #[] }, { accessFlags := 18, nameIndex := 275, descriptorIndex := 276, attributes := #[] }, { accessFlags := 25, nameIndex := 376, descriptorIndex := 377, attributes := #[] }, { accessFlags := 25, nameIndex := 379, descriptorIndex := 377, attributes := #[] }, { accessFlags := 26, nameIndex := 381, descriptorIndex := 276, attributes := #[] }])
  fields := #[{ name := "MIN_VALUE", type := .long, accessFlags := 25, slot := 0, constantValue := 0 }, { name := "MAX_VALUE", type := .long, accessFlags := 25, slot := 1, constantValue := 0 }, { name := "TYPE", type := (.object "java/lang/Class"), accessFlags := 25, slot := 2, constantValue := 0 }, { name := "value", type := .long, accessFlags := 18, slot := 0, constantValue := 0 }, { name := "SIZE", type := .int, accessFlags := 25, slot := 3, constantValue := 0 }, { name := "BYTES", type := .int, accessFlags := 25, slot := 4, constantValue := 0 }, { name := "serialVersionUID", type := .long, accessFlags := 26, slot := 5, constantValue := 0 }]
  methods := #[k9m0]
  instanceTypes := #[.long]
  staticTypes := #[.long, .long, (.object "java/lang/Class"), .int, .int, .long]
  resolved := Array.replicate 524 none
  statics := none }

def pool10 : Array CpInfo := pool [(1, .class_ 2), (0, u "java/lang/Integer"), (16, u "digits"), (0, u "[C"), (32, u "numberOfLeadingZeros"), (0, u "(I)I"), (30, u "DigitOnes"), (0, u "[B"), (2, u "DigitTens"), (99, .class_ 190), (0, u "java/lang/Integer$IntegerCache"), (3, u "I"), (8, .class_ 204), (0, u "java/lang/Number"), (2, u "value"), (56, .integer 65536), (37, u "TYPE"), (0, u "Ljava/lang/Class;"), (0, .class_ 305), (0, u "java/lang/Comparable"), (0, .class_ 307), (0, u "java/lang/constant/Constable"), (0, .class_ 309), (0, u "java/lang/constant/ConstantDesc"), (0, u "MIN_VALUE"), (1, u "MAX_VALUE"), (3, u "SIZE"), (1, u "BYTES"), (1, u "serialVersionUID"), (0, u "J")] 131

def k10c0 : Code := { maxStack := 3, maxLocals := 2, code := jdk_33_method_47_code, exceptionTable := #[], attributes := #[] }
def k10m0 : Method := { name := "numberOfLeadingZeros", desc := "(I)I", sig := { parameters := [.int], returnType := some .int }, accessFlags := 9, code := some k10c0 }
/-- java/lang/Integer -/
def k10 : Class := { plain "java/lang/Integer" (some 5) with
  accessFlags := 49
  interfaces := #[6, 7, 8]
  cf := some (fileOf pool10 1 #[.nestMembers #[189]] #[{ accessFlags := 9, nameIndex := 53, descriptorIndex := 54, attributes := #[] }] 49 203 #[304, 306, 308] #[{ accessFlags := 25, nameIndex := 310, descriptorIndex := 194, attributes := #[] }, { accessFlags := 25, nameIndex := 312, descriptorIndex := 194, attributes := #[] }, { accessFlags := 25, nameIndex := 302, descriptorIndex := 303, attributes := #[] }, { accessFlags := 24, nameIndex := 19, descriptorIndex := 20, attributes := #[] }, { accessFlags := 24, nameIndex := 89, descriptorIndex := 86, attributes := #[] }, { accessFlags := 24, nameIndex := 85, descriptorIndex := 86, attributes := #[] }, { accessFlags := 18, nameIndex := 207, descriptorIndex := 194, attributes := #[] }, { accessFlags := 25, nameIndex := 316, descriptorIndex := 194, attributes := #[] }, { accessFlags := 25, nameIndex := 318, descriptorIndex := 194, attributes := #[] }, { accessFlags := 26, nameIndex := 320, descriptorIndex := 321, attributes := #[] }])
  fields := #[{ name := "MIN_VALUE", type := .int, accessFlags := 25, slot := 0, constantValue := 0 }, { name := "MAX_VALUE", type := .int, accessFlags := 25, slot := 1, constantValue := 0 }, { name := "TYPE", type := (.object "java/lang/Class"), accessFlags := 25, slot := 2, constantValue := 0 }, { name := "digits", type := (.array .char), accessFlags := 24, slot := 3, constantValue := 0 }, { name := "DigitTens", type := (.array .byte), accessFlags := 24, slot := 4, constantValue := 0 }, { name := "DigitOnes", type := (.array .byte), accessFlags := 24, slot := 5, constantValue := 0 }, { name := "value", type := .int, accessFlags := 18, slot := 0, constantValue := 0 }, { name := "SIZE", type := .int, accessFlags := 25, slot := 6, constantValue := 0 }, { name := "BYTES", type := .int, accessFlags := 25, slot := 7, constantValue := 0 }, { name := "serialVersionUID", type := .long, accessFlags := 26, slot := 8, constantValue := 0 }]
  methods := #[k10m0]
  instanceTypes := #[.int]
  staticTypes := #[.int, .int, (.object "java/lang/Class"), (.array .char), (.array .byte), (.array .byte), .int, .int, .long]
  resolved := Array.replicate 453 none
  statics := none }

def pool11 : Array CpInfo := pool [(1, u "java/lang/Cloneable"), (0, .class_ 1), (0, u "java/lang/Object"), (0, .class_ 3)] 3

/-- java/lang/Cloneable -/
def k11 : Class := { plain "java/lang/Cloneable" (some 0) with
  accessFlags := 1537
  interfaces := #[]
  cf := some (fileOf pool11 2 #[] #[] 1537 4 #[] #[])
  fields := #[]
  methods := #[]
  instanceTypes := #[]
  staticTypes := #[]
  resolved := Array.replicate 8 none
  statics := none }

/-- the primitive byte -/
def k12 : Class := { plain "byte" none with kind := .primitive 'B', accessFlags := 0x411 }
/-- [B -/
def k13 : Class := { plain "[B" (some 0) with kind := .array 12 .byte, interfaces := #[11, 4], accessFlags := 1041 }

/-- the primitive int -/
def k14 : Class := { plain "int" none with kind := .primitive 'I', accessFlags := 0x411 }
/-- [I -/
def k15 : Class := { plain "[I" (some 0) with kind := .array 14 .int, interfaces := #[11, 4], accessFlags := 1041 }

def heap : Heap := #[]
def classes : Array Class := #[k0, k1, k2, k3, k4, k5, k6, k7, k8, k9, k10, k11, k12, k13, k14, k15]
def interned : List (Array UInt16 × Addr) := []
def slotsUsed : Nat := 0
def theMethod : MethodId := ⟨1, 1⟩
def args0 : Array Value := #[.int 5, .int 7, .int 3]
def aboutOver (below : List Frame) : State where
  vm := { classes := classes, interned := interned.toArray }
  heap := heap
  slotsUsed := slotsUsed
  threads := #[{ frames := .invoking theMethod args0 :: below }]
def below0 : List Frame := [.native { method := ⟨0, 0⟩, args := #[] }]
def about1 : State := aboutOver below0
def p0 : Program := .bare "" "" ""
def e0 : Env := launch0.env 0 0 0
theorem w_frames : about1.frames = Frame.invoking theMethod args0 :: below0 := rfl
set_option maxRecDepth 65536 in
theorem w_args : argsFit about1.vm theMethod args0 = true := by decide +kernel
set_option maxRecDepth 65536 in
theorem w_heap : heapFits about1 = true := by decide +kernel
set_option maxRecDepth 65536 in
theorem w_runnable : about1.curStatus? = some .runnable := by decide +kernel
set_option maxRecDepth 65536 in
theorem w_alone : about1.alone = true := by decide +kernel
set_option maxRecDepth 65536 in
theorem w_named : about1.methodNamed? x = some theMethod := by decide +kernel
set_option maxRecDepth 65536 in
theorem w_hears : about1.hears theMethod below0 = true := by decide +kernel
set_option maxRecDepth 65536 in
theorem w_ripe : about1.ripe theMethod args0 below0 = true := by decide +kernel
theorem w_running : about1.status = .running := rfl
set_option maxRecDepth 65536 in
theorem w_room : about1.hasRoom e0.platform room_1 = true :=
  launch0.hasRoom_least _ room_1 (by decide +kernel) (by decide +kernel) (by decide +kernel) (by decide +kernel) (by decide +kernel) (by decide +kernel)
theorem allAtoms_all (ts : List Jvm.Cond) (a : Array Jvm.Value) (st : Jvm.State) : (allAtoms ts).before a st = ts.all (fun c => c.before a st) := by
  induction ts with
  | nil => rfl
  | cons c t ih =>
    show (Jvm.Cond.and c (allAtoms t)).before a st = _
    rw [Jvm.Cond.before_and, ih, List.all_cons]
def words1 : List Jvm.Cond := Jvm.Cond.code x code maxLocals ret :: tables_1
/-- a 'code' word, met by the world's own term for the bytes: nothing is compared byte by byte -/
theorem code_word {y : MethodName} {bytes : ByteArray} {mx : Nat} {rt : Option FieldType} {a : Array Value} {s : State} {m : MethodId} {meth : Method} {c : Code} (h1 : s.methodNamed? y = some m) (h2 : s.vm.method? m = some meth) (h3 : meth.code = some c) (h4 : c.code = bytes)
    (h5 : (c.maxLocals == mx && c.exceptionTable.isEmpty && decide (c.maxStack ≤ mostOperands) && decide (meth.sig.returnType = rt) && !meth.locks && decide (parseMethodDescriptor y.desc = some meth.sig)) = true) : (Jvm.Cond.code y bytes mx rt).before a s = true := by
  simp only [Bool.and_eq_true, beq_iff_eq, Bool.not_eq_true', decide_eq_true_eq] at h5
  obtain ⟨⟨⟨⟨⟨g1, g2⟩, g3⟩, g4⟩, g5⟩, g6⟩ := h5
  simp [Cond.before, Cond.holds, Cond.value, h1, h2, h3, h4, g1, g2, g3, g4, g5, g6]
def isCode : Jvm.Cond → Bool
  | .code _ _ _ _ => true
  | _ => false
theorem all_split {L : List Jvm.Cond} {P : Jvm.Cond → Bool} (h1 : L.all (fun c => isCode c || P c) = true) (h2 : ∀ c ∈ L.filter isCode, P c = true) : L.all P = true := by
  refine List.all_eq_true.mpr fun c hc => ?_
  have h := List.all_eq_true.mp h1 c hc
  rcases Bool.eq_false_or_eq_true (isCode c) with hi | hi
  · exact h2 c (List.mem_filter.mpr ⟨hc, hi⟩)
  · simpa [hi] using h
set_option maxRecDepth 65536 in
theorem w_c0 : (Jvm.Cond.code x code maxLocals ret).before args0 about1 = true := code_word (m := ⟨1, 1⟩) (meth := k1m1) (c := k1c1) (by decide +kernel) rfl rfl rfl (by decide +kernel)
set_option maxRecDepth 65536 in
theorem w_c1 : (Jvm.Cond.code ({ cls := "java/lang/Math", name := "max", desc := "(II)I" } : Jvm.MethodName) jdk_29_method_65_code (2 : Nat) (Option.some Jvm.ClassFile.FieldType.int)).before args0 about1 = true := code_word (m := ⟨2, 1⟩) (meth := k2m1) (c := k2c1) (by decide +kernel) rfl rfl rfl (by decide +kernel)
set_option maxRecDepth 65536 in
theorem w_c2 : (Jvm.Cond.code ({ cls := "com/example/syncline/syncline/client/bench/Scatter", name := "<init>", desc := "(I)V" } : Jvm.MethodName) prog_29_method_1_code (3 : Nat) (Option.none : Option Jvm.ClassFile.FieldType)).before args0 about1 = true := code_word (m := ⟨3, 0⟩) (meth := k3m0) (c := k3c0) (by decide +kernel) rfl rfl rfl (by decide +kernel)
set_option maxRecDepth 65536 in
theorem w_c3 : (Jvm.Cond.code ({ cls := "java/lang/Object", name := "<init>", desc := "()V" } : Jvm.MethodName) object_method_1_code (1 : Nat) (Option.none : Option Jvm.ClassFile.FieldType)).before args0 about1 = true := code_word (m := ⟨0, 0⟩) (meth := k0m0) (c := k0c0) (by decide +kernel) rfl rfl rfl (by decide +kernel)
set_option maxRecDepth 65536 in
theorem w_c4 : (Jvm.Cond.code ({ cls := "java/lang/Long", name := "numberOfLeadingZeros", desc := "(J)I" } : Jvm.MethodName) jdk_35_method_48_code (3 : Nat) (Option.some Jvm.ClassFile.FieldType.int)).before args0 about1 = true := code_word (m := ⟨9, 0⟩) (meth := k9m0) (c := k9c0) (by decide +kernel) rfl rfl rfl (by decide +kernel)
set_option maxRecDepth 65536 in
theorem w_c5 : (Jvm.Cond.code ({ cls := "java/lang/Integer", name := "numberOfLeadingZeros", desc := "(I)I" } : Jvm.MethodName) jdk_33_method_47_code (2 : Nat) (Option.some Jvm.ClassFile.FieldType.int)).before args0 about1 = true := code_word (m := ⟨10, 0⟩) (meth := k10m0) (c := k10c0) (by decide +kernel) rfl rfl rfl (by decide +kernel)
set_option maxRecDepth 65536 in
theorem w_c6 : (Jvm.Cond.code ({ cls := "com/example/syncline/syncline/client/bench/Scatter", name := "apply", desc := "(I)I" } : Jvm.MethodName) prog_29_method_2_code (4 : Nat) (Option.some Jvm.ClassFile.FieldType.int)).before args0 about1 = true := code_word (m := ⟨3, 1⟩) (meth := k3m1) (c := k3c1) (by decide +kernel) rfl rfl rfl (by decide +kernel)
set_option maxRecDepth 65536 in
theorem w_c7 : (Jvm.Cond.code ({ cls := "com/example/syncline/syncline/client/bench/Scatter", name := "permute", desc := "(J)J" } : Jvm.MethodName) prog_29_method_3_code (10 : Nat) (Option.some Jvm.ClassFile.FieldType.long)).before args0 about1 = true := code_word (m := ⟨3, 2⟩) (meth := k3m2) (c := k3c2) (by decide +kernel) rfl rfl rfl (by decide +kernel)
set_option maxRecDepth 65536 in
theorem w_c8 : (Jvm.Cond.code ({ cls := "com/example/syncline/syncline/client/bench/Scatter", name := "mix", desc := "(J)J" } : Jvm.MethodName) prog_29_method_4_code (4 : Nat) (Option.some Jvm.ClassFile.FieldType.long)).before args0 about1 = true := code_word (m := ⟨3, 3⟩) (meth := k3m3) (c := k3c3) (by decide +kernel) rfl rfl rfl (by decide +kernel)
def codes1 : List Jvm.Cond := [Jvm.Cond.code x code maxLocals ret, Jvm.Cond.code ({ cls := "java/lang/Math", name := "max", desc := "(II)I" } : Jvm.MethodName) jdk_29_method_65_code (2 : Nat) (Option.some Jvm.ClassFile.FieldType.int), Jvm.Cond.code ({ cls := "com/example/syncline/syncline/client/bench/Scatter", name := "<init>", desc := "(I)V" } : Jvm.MethodName) prog_29_method_1_code (3 : Nat) (Option.none : Option Jvm.ClassFile.FieldType), Jvm.Cond.code ({ cls := "java/lang/Object", name := "<init>", desc := "()V" } : Jvm.MethodName) object_method_1_code (1 : Nat) (Option.none : Option Jvm.ClassFile.FieldType), Jvm.Cond.code ({ cls := "java/lang/Long", name := "numberOfLeadingZeros", desc := "(J)I" } : Jvm.MethodName) jdk_35_method_48_code (3 : Nat) (Option.some Jvm.ClassFile.FieldType.int), Jvm.Cond.code ({ cls := "java/lang/Integer", name := "numberOfLeadingZeros", desc := "(I)I" } : Jvm.MethodName) jdk_33_method_47_code (2 : Nat) (Option.some Jvm.ClassFile.FieldType.int), Jvm.Cond.code ({ cls := "com/example/syncline/syncline/client/bench/Scatter", name := "apply", desc := "(I)I" } : Jvm.MethodName) prog_29_method_2_code (4 : Nat) (Option.some Jvm.ClassFile.FieldType.int), Jvm.Cond.code ({ cls := "com/example/syncline/syncline/client/bench/Scatter", name := "permute", desc := "(J)J" } : Jvm.MethodName) prog_29_method_3_code (10 : Nat) (Option.some Jvm.ClassFile.FieldType.long), Jvm.Cond.code ({ cls := "com/example/syncline/syncline/client/bench/Scatter", name := "mix", desc := "(J)J" } : Jvm.MethodName) prog_29_method_4_code (4 : Nat) (Option.some Jvm.ClassFile.FieldType.long)]
set_option maxRecDepth 65536 in
theorem codes_eq : words1.filter isCode = codes1 := rfl
theorem w_codes : ∀ c ∈ words1.filter isCode, c.before args0 about1 = true := by
  rw [codes_eq]
  intro c hc
  simp only [codes1, List.mem_cons, List.not_mem_nil, or_false] at hc
  rcases hc with rfl | rfl | rfl | rfl | rfl | rfl | rfl | rfl | rfl
  · exact w_c0
  · exact w_c1
  · exact w_c2
  · exact w_c3
  · exact w_c4
  · exact w_c5
  · exact w_c6
  · exact w_c7
  · exact w_c8
set_option maxRecDepth 65536 in
theorem w_t1 : (words1.take 24).all (fun c => isCode c || c.before args0 about1) = true := by decide +kernel
set_option maxRecDepth 65536 in
theorem w_t2 : (words1.drop 24).all (fun c => isCode c || c.before args0 about1) = true := by decide +kernel
theorem w_tables : (allAtoms (Jvm.Cond.code x code maxLocals ret :: tables_1)).before args0 about1 = true := by
  rw [allAtoms_all]
  show words1.all (fun c => c.before args0 about1) = true
  refine all_split ?_ w_codes
  rw [← List.take_append_drop 24 words1, List.all_append, w_t1, w_t2]
  rfl
set_option maxRecDepth 65536 in
theorem w_case : (Jvm.Cond.and given_1 narrow_1).before args0 about1 = true := by decide +kernel
theorem w_applies : (headSpec (Jvm.Cond.code x code maxLocals ret :: tables_1) room_1).applies x e0.platform about1 = true :=
  (Spec.applies_iff w_frames).mpr ⟨w_running, w_runnable, w_alone, w_named, w_hears, w_ripe, w_room, w_tables⟩
theorem atStart : AtStart classFile x code maxLocals ret World_1 tables_1 room_1 Calls_1 rest_1 Pre_1 launch0 p0 e0 about1 theMethod args0 below0 :=
  ⟨lists_1, trivial, launch0.admits_env _ _ _, launch0.least_env, fairChoices_fair.cas, fairChoices_fair.clock, w_frames, w_args, w_heap, w_applies, trivial, trivial, w_case⟩
end start1
theorem witness_1 : WitnessClaimed_1 := ⟨start1.p0, start1.e0, start1.about1, start1.theMethod, start1.args0, start1.below0, start1.atStart⟩
end Jvm.Pilot.@@N@@
