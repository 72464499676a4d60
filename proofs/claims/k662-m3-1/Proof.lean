import JvmDerived
import JvmDerived.Pilot.@@N@@Statement
import JvmDerived.Pilot.@@N@@Code
set_option linter.unusedVariables false
set_option linter.unusedSimpArgs false
namespace Jvm.Pilot.@@N@@
open Jvm Jvm.ClassFile Sem Op Lib Jvm.Free Jvm.Stand Jvm.LawKit Jvm.RoadKit Bundle Jvm.Pilot.@@N@@.Jvm.D
/-! my own small laws: arrays by a function of the place; returns -/
def IA (Z : State) (h : Heap) (a : Addr) (ty : FieldType) (n : Nat) (f : Nat → Int32) : Prop :=
  ∃ c : Cell, Arr Z h a c ty ∧ c.slots.size = n ∧ ∀ j, j < n → c.slots[j]? = some (.int (f j)) ∧ fits ty (.int (f j)) = true
def JA (Z : State) (h : Heap) (a : Addr) (n : Nat) (f : Nat → Int64) : Prop :=
  ∃ c : Cell, Arr Z h a c .long ∧ c.slots.size = n ∧ ∀ j, j < n → c.slots[j]? = some (.long (f j))
def upd (f : Nat → Int32) (i : Nat) (v : Int32) : Nat → Int32 := fun j => if j = i then v else f j
def updJ (f : Nat → Int64) (i : Nat) (v : Int64) : Nat → Int64 := fun j => if j = i then v else f j
def QP (r : Value) (h0 : Heap) (n0 : Nat) (v : Option Value) (h : Heap) (L : List Loc) : Prop := v = some r ∧ Fr n0 L ∧ h = h0
def QL (n0 : Nat) (v : Option Value) (h : Heap) (L : List Loc) : Prop := v = some (.int 1) ∧ Fr n0 L
section Own
variable {p : Program} {l : Launch} {e : Env} {R : Room} {s : State} {m : MethodId} {args : Array Value} {below : List Frame} {meth : Method} {c : Code} {T : State} {locs : List Loc} {cells slots : Nat} {Z : State} {h h' : Heap} {a b : Addr} {ty : FieldType} {n : Nat} {f : Nat → Int32} {fJ : Nat → Int64} {sl : Nat} {v : Value} {wl : List Addr}
theorem IA.lt (F : IA Z h a ty n f) : a < h.size := by obtain ⟨c, A, -⟩ := F; exact A.lt
theorem IA.ext (F : IA Z h a ty n f) (E : Ext h h') : IA Z h' a ty n f := by obtain ⟨c, A, r⟩ := F; exact ⟨c, A.ext E, r⟩
theorem IA.other (F : IA Z h b ty n f) (W : Wr h h' a sl v) (q : b ≠ a) : IA Z h' b ty n f := by obtain ⟨c, A, r⟩ := F; exact ⟨c, A.other W q, r⟩
theorem IA.keep (F : IA Z h a ty n f) (K : Keep h h' wl) (q : a ∉ wl) : IA Z h' a ty n f := by obtain ⟨c, A, r⟩ := F; exact ⟨c, ⟨K.2.1 a c A.1 q, A.2⟩, r⟩
theorem IA.new {k : ClassId} {z : Int32} (A : Arr Z h a (newA k ty z) ty) (hd : defaultValue ty = .int 0) (hf : fits ty (.int 0) = true) (hz : z.toNatClampNeg = n) : IA Z h a ty n (fun _ => 0) := by
  refine ⟨_, A, by rw [sz_new, hz], fun j hj => ⟨?_, hf⟩⟩
  have : j < z.toNatClampNeg := by rw [hz]; exact hj
  simp [newA, hd, this]
theorem IA.set {c : Cell} (A : Arr Z h a c ty) (S : c.slots.size = n) (H : ∀ j, j < n → c.slots[j]? = some (.int (f j)) ∧ fits ty (.int (f j)) = true) {x : Int32} (hv : fits ty (.int x) = true) {i : Nat} (W : Wr h h' a i (.int x)) (hi : i < n) : IA Z h' a ty n (upd f i x) := by
  refine ⟨_, A.same W, by rw [sz_set, S], fun j hj => ?_⟩
  unfold upd
  by_cases q : j = i
  · subst q; simp [Cell.setSlot, S, hi, hv]
  · have := H j hj
    rw [if_neg q]
    refine ⟨?_, this.2⟩
    rw [← this.1]
    show (c.slots.setIfInBounds i (.int x))[j]? = _
    exact Array.getElem?_setIfInBounds_ne (Ne.symm q)
theorem JA.lt (F : JA Z h a n fJ) : a < h.size := by obtain ⟨c, A, -⟩ := F; exact A.lt
theorem JA.ext (F : JA Z h a n fJ) (E : Ext h h') : JA Z h' a n fJ := by obtain ⟨c, A, r⟩ := F; exact ⟨c, A.ext E, r⟩
theorem JA.other (F : JA Z h b n fJ) (W : Wr h h' a sl v) (q : b ≠ a) : JA Z h' b n fJ := by obtain ⟨c, A, r⟩ := F; exact ⟨c, A.other W q, r⟩
theorem JA.keep (F : JA Z h a n fJ) (K : Keep h h' wl) (q : a ∉ wl) : JA Z h' a n fJ := by obtain ⟨c, A, r⟩ := F; exact ⟨c, ⟨K.2.1 a c A.1 q, A.2⟩, r⟩
theorem JA.new {k : ClassId} {z : Int32} (A : Arr Z h a (newA k .long z) .long) (hz : z.toNatClampNeg = n) : JA Z h a n (fun _ => 0) := by
  refine ⟨_, A, by rw [sz_new, hz], fun j hj => ?_⟩
  have : j < z.toNatClampNeg := by rw [hz]; exact hj
  simp [newA, defaultValue, this]
theorem JA.set {c : Cell} (A : Arr Z h a c .long) (S : c.slots.size = n) (H : ∀ j, j < n → c.slots[j]? = some (.long (fJ j))) {x : Int64} {i : Nat} (W : Wr h h' a i (.long x)) (hi : i < n) : JA Z h' a n (updJ fJ i x) := by
  refine ⟨_, A.same W, by rw [sz_set, S], fun j hj => ?_⟩
  unfold updJ
  by_cases q : j = i
  · subst q; simp [Cell.setSlot, S, hi]
  · rw [if_neg q, ← H j hj]
    show (c.slots.setIfInBounds i (.long x))[j]? = _
    exact Array.getElem?_setIfInBounds_ne (Ne.symm q)
theorem stBA (X : Stand p l e R s m args below meth c T locs cells slots) (hx : p.tables.exec = Jvm.exec) (hZ : Z.Warmed39 s.vm) (eT : T.heap = h) (V : IA Z h a .byte n f) {j x : Int32} (hj : ¬ (j < 0 ∨ n ≤ j.toNatClampNeg)) {g : JFrame} (hg : g.method = m) {rest : List Value} (hs : g.stack = .int x :: .int j :: .ref a :: rest) (hd : decode c.code g.pc = .ok (.bastore, 1)) :
    ∃ T' h', Stand p l e R s m args below meth c T' (locs ++ [⟨a, j.toNatClampNeg⟩]) cells slots ∧ T'.heap = h' ∧ (∃ sl v, Wr h h' a sl v) ∧ IA Z h' a .byte n (upd f j.toNatClampNeg (nar .byte x)) ∧ ∀ target, Steps p.tables e below (T'.setTop { g with pc := g.pc + 1, stack := rest }) target → Steps p.tables e below (T.setTop g) target := by
  obtain ⟨cl, A, S, H⟩ := V
  obtain ⟨T', h', X', e', W, st⟩ := stB X hx hZ eT A (j := j) (x := x) (by rw [S]; exact hj) hg hs hd
  exact ⟨T', h', X', e', ⟨_, _, W⟩, IA.set A S H (fits_nar_byte _) W (Nat.lt_of_not_le fun q => hj (Or.inr q)), st⟩
theorem stIA (X : Stand p l e R s m args below meth c T locs cells slots) (hx : p.tables.exec = Jvm.exec) (hZ : Z.Warmed39 s.vm) (eT : T.heap = h) (V : IA Z h a .int n f) {j x : Int32} (hj : ¬ (j < 0 ∨ n ≤ j.toNatClampNeg)) {g : JFrame} (hg : g.method = m) {rest : List Value} (hs : g.stack = .int x :: .int j :: .ref a :: rest) (hd : decode c.code g.pc = .ok (.iastore, 1)) :
    ∃ T' h', Stand p l e R s m args below meth c T' (locs ++ [⟨a, j.toNatClampNeg⟩]) cells slots ∧ T'.heap = h' ∧ (∃ sl v, Wr h h' a sl v) ∧ IA Z h' a .int n (upd f j.toNatClampNeg x) ∧ ∀ target, Steps p.tables e below (T'.setTop { g with pc := g.pc + 1, stack := rest }) target → Steps p.tables e below (T.setTop g) target := by
  obtain ⟨cl, A, S, H⟩ := V
  obtain ⟨T', h', X', e', W, st⟩ := stI X hx hZ eT A (j := j) (x := x) (by rw [S]; exact hj) hg hs hd
  exact ⟨T', h', X', e', ⟨_, _, W⟩, IA.set A S H rfl W (Nat.lt_of_not_le fun q => hj (Or.inr q)), st⟩
theorem stJA (X : Stand p l e R s m args below meth c T locs cells slots) (hx : p.tables.exec = Jvm.exec) (hZ : Z.Warmed39 s.vm) (eT : T.heap = h) (V : JA Z h a n fJ) {j : Int32} {x : Int64} (hj : ¬ (j < 0 ∨ n ≤ j.toNatClampNeg)) {g : JFrame} (hg : g.method = m) {rest : List Value} (hs : g.stack = .long x :: .int j :: .ref a :: rest) (hd : decode c.code g.pc = .ok (.lastore, 1)) :
    ∃ T' h', Stand p l e R s m args below meth c T' (locs ++ [⟨a, j.toNatClampNeg⟩]) cells slots ∧ T'.heap = h' ∧ (∃ sl v, Wr h h' a sl v) ∧ JA Z h' a n (updJ fJ j.toNatClampNeg x) ∧ ∀ target, Steps p.tables e below (T'.setTop { g with pc := g.pc + 1, stack := rest }) target → Steps p.tables e below (T.setTop g) target := by
  obtain ⟨cl, A, S, H⟩ := V
  obtain ⟨T', h', X', e', W, st⟩ := stJ X hx hZ eT A (j := j) (x := x) (by rw [S]; exact hj) hg hs hd
  exact ⟨T', h', X', e', ⟨_, _, W⟩, JA.set A S H W (Nat.lt_of_not_le fun q => hj (Or.inr q)), st⟩
theorem ldBA (X : Stand p l e R s m args below meth c T locs cells slots) (hx : p.tables.exec = Jvm.exec) (hZ : Z.Warmed39 s.vm) (eT : T.heap = h) (V : IA Z h a .byte n f) {j : Int32} (hj : ¬ (j < 0 ∨ n ≤ j.toNatClampNeg)) {g : JFrame} (hg : g.method = m) {rest : List Value} (hs : g.stack = .int j :: .ref a :: rest) (hd : decode c.code g.pc = .ok (.baload, 1)) :
    ∀ target, Steps p.tables e below (T.setTop { g with pc := g.pc + 1, stack := .int (f j.toNatClampNeg) :: rest }) target → Steps p.tables e below (T.setTop g) target := by
  obtain ⟨cl, A, S, H⟩ := V
  exact X.baloadBytes hx (by rw [eT]; exact A.1) (State.isArrayOf_alike hZ.alike A.2.1) A.2.2 (by rw [S]; exact hj) (H _ (Nat.lt_of_not_le fun q => hj (Or.inr q))).1 hg hs hd
theorem ldIA (X : Stand p l e R s m args below meth c T locs cells slots) (hx : p.tables.exec = Jvm.exec) (hZ : Z.Warmed39 s.vm) (eT : T.heap = h) (V : IA Z h a .int n f) {j : Int32} (hj : ¬ (j < 0 ∨ n ≤ j.toNatClampNeg)) {g : JFrame} (hg : g.method = m) {rest : List Value} (hs : g.stack = .int j :: .ref a :: rest) (hd : decode c.code g.pc = .ok (.iaload, 1)) :
    ∀ target, Steps p.tables e below (T.setTop { g with pc := g.pc + 1, stack := .int (f j.toNatClampNeg) :: rest }) target → Steps p.tables e below (T.setTop g) target := by
  obtain ⟨cl, A, S, H⟩ := V
  exact X.iaload hx (by rw [eT]; exact A.1) (State.isArrayOf_alike hZ.alike A.2.1) A.2.2 (by rw [S]; exact hj) (H _ (Nat.lt_of_not_le fun q => hj (Or.inr q))).1 hg hs hd
theorem ldJA (X : Stand p l e R s m args below meth c T locs cells slots) (hx : p.tables.exec = Jvm.exec) (hZ : Z.Warmed39 s.vm) (eT : T.heap = h) (V : JA Z h a n fJ) {j : Int32} (hj : ¬ (j < 0 ∨ n ≤ j.toNatClampNeg)) {g : JFrame} (hg : g.method = m) {rest : List Value} (hs : g.stack = .int j :: .ref a :: rest) (hd : decode c.code g.pc = .ok (.laload, 1)) :
    ∀ target, Steps p.tables e below (T.setTop { g with pc := g.pc + 1, stack := .long (fJ j.toNatClampNeg) :: rest }) target → Steps p.tables e below (T.setTop g) target := by
  obtain ⟨cl, A, S, H⟩ := V
  exact X.laload hx (by rw [eT]; exact A.1) (State.isArrayOf_alike hZ.alike A.2.1) A.2.2 (by rw [S]; exact hj) (H _ (Nat.lt_of_not_le fun q => hj (Or.inr q))) hg hs hd
theorem lnIA (X : Stand p l e R s m args below meth c T locs cells slots) (hx : p.tables.exec = Jvm.exec) (hZ : Z.Warmed39 s.vm) (eT : T.heap = h) (V : IA Z h a ty n f) {z : Int32} (hz : n.toInt32 = z) {g : JFrame} (hg : g.method = m) {rest : List Value} (hs : g.stack = .ref a :: rest) (hd : decode c.code g.pc = .ok (.arraylength, 1)) :
    ∀ target, Steps p.tables e below (T.setTop { g with pc := g.pc + 1, stack := .int z :: rest }) target → Steps p.tables e below (T.setTop g) target := by
  obtain ⟨cl, A, S, H⟩ := V
  intro t k
  refine X.arraylength hx (by rw [eT]; exact A.1) (State.isArrayOf_alike hZ.alike A.2.1) hg hs hd t ?_
  rw [S, hz]; exact k
theorem lnJA (X : Stand p l e R s m args below meth c T locs cells slots) (hx : p.tables.exec = Jvm.exec) (hZ : Z.Warmed39 s.vm) (eT : T.heap = h) (V : JA Z h a n fJ) {z : Int32} (hz : n.toInt32 = z) {g : JFrame} (hg : g.method = m) {rest : List Value} (hs : g.stack = .ref a :: rest) (hd : decode c.code g.pc = .ok (.arraylength, 1)) :
    ∀ target, Steps p.tables e below (T.setTop { g with pc := g.pc + 1, stack := .int z :: rest }) target → Steps p.tables e below (T.setTop g) target := by
  obtain ⟨cl, A, S, H⟩ := V
  intro t k
  refine X.arraylength hx (by rw [eT]; exact A.1) (State.isArrayOf_alike hZ.alike A.2.1) hg hs hd t ?_
  rw [S, hz]; exact k
theorem retI (X : Stand p l e R s m args below meth c T locs cells slots) (hx : p.tables.exec = Jvm.exec) {pc : Nat} {Ls : Array Slot} {z : Int32} {rest : List Value} (hret : meth.sig.returnType = some .int) (hd : decode c.code pc = .ok (.ireturn, 1)) {fs : List Frame}
    (hl : ∀ (f : JFrame) (acts : List Action), f.method = m → f.locked = none → f.entered = [] → (doReturn e (T.setTop f) acts (some (.int z))).1 = T.setFrames fs) : Steps p.tables e below (T.setTop (mkF m pc Ls (.int z :: rest))) (T.setFrames fs) :=
  retOut X hx hret rfl (Or.inl ⟨rfl, Or.inl rfl, z, rfl⟩) hd hl
end Own
/-! numbers -/
theorem own_small {v : Int32} (n : Nat) (h0 : 0 ≤ v.toInt) (h1 : v.toInt < n) : ∃ k : Fin n, v = Int32.ofNat k.val := by
  refine ⟨⟨v.toInt.toNat, by omega⟩, ?_⟩
  apply Int32.toInt_inj.mp
  have := v.toInt_lt
  show v.toInt = (Int32.ofNat v.toInt.toNat).toInt
  rw [Int32.toInt_ofNat_of_lt (by omega)]
  omega
theorem own_mask31 (x : Int32) : 0 ≤ (x &&& (2147483647 : Int32)).toInt ∧ (x &&& (2147483647 : Int32)).toInt = x.toInt % 2147483648 := by
  have h : (x &&& (2147483647 : Int32)).toInt = x.toInt % (2 ^ 31 : Nat) := c_mask x 2147483647 31 (by decide) (by decide)
  omega
theorem own_mod (x : Int32) (d : Int32) (n : Nat) (hd : d.toInt = n) (hn : 0 < n) : ∃ k : Fin n, (x &&& (2147483647 : Int32)) % d = Int32.ofNat k.val := by
  apply own_small
  · rw [Int32.toInt_mod]; exact Int.tmod_nonneg _ (own_mask31 x).1
  · rw [Int32.toInt_mod, hd]; exact Int.tmod_lt_of_pos _ (by omega)
theorem own_ofNat_toInt {n : Nat} (h : n < 2147483648) : (Int32.ofNat n).toInt = n := Int32.toInt_ofNat_of_lt (by omega)
theorem own_ofNat_lt {a b : Nat} (ha : a < 2147483648) (hb : b < 2147483648) : Int32.ofNat a < Int32.ofNat b ↔ a < b := by
  rw [Int32.lt_iff_toInt_lt, own_ofNat_toInt ha, own_ofNat_toInt hb]; omega
theorem own_ofNat_nat {n : Nat} (h : n < 2147483648) : (Int32.ofNat n).toNatClampNeg = n := by
  show (Int32.ofNat n).toInt.toNat = n
  rw [own_ofNat_toInt h]; omega
theorem own_ofNat_in {n len : Nat} (h : n < len) (hl : len ≤ 2147483648) : ¬ (Int32.ofNat n < 0 ∨ len ≤ (Int32.ofNat n).toNatClampNeg) := by
  rw [own_ofNat_nat (by omega), Int32.lt_iff_toInt_lt, own_ofNat_toInt (by omega)]
  have e : (0 : Int32).toInt = 0 := by decide
  rw [e]; omega
theorem own_ofNat_succ (n : Nat) : Int32.ofNat n + 1 = Int32.ofNat (n + 1) := by rw [Int32.ofNat_add]; rfl
def U (x : Int64) : Int := x.toInt % 18446744073709551616
theorem own_U (x y : Int64) (h : U x = U y) : x = y := by
  apply Int64.toInt_inj.mp
  have a := rng64 x; have b := rng64 y; unfold U at h; omega
theorem own_stepU (v : Int64) (x : Int32) (h0 : 0 ≤ x.toInt) (h1 : x.toInt < 256) : U ((v <<< ((8 : Int32) &&& 0x3f).toInt64) ||| x.toInt64) = (U v * 256) % 18446744073709551616 + x.toInt := by
  have a := c_lshl v 8 8 (by decide)
  have r := rng64 (v <<< ((8 : Int32) &&& 0x3f).toInt64)
  have e : x.toInt64.toInt = x.toInt := Int32.toInt_toInt64 x
  have c := c_orL (v <<< ((8 : Int32) &&& 0x3f).toInt64) x.toInt64 8 (by decide) 256 (by decide) (by omega) (by omega) (by omega)
  unfold U
  generalize ((v <<< ((8 : Int32) &&& 0x3f).toInt64) ||| x.toInt64).toInt = w at *
  generalize (v <<< ((8 : Int32) &&& 0x3f).toInt64).toInt = u at *
  rw [e] at c
  have p : ((2 ^ 8 : Nat) : Int) = 256 := by decide
  rw [p] at a
  omega
theorem own_byte (q0 : Int64) (s : Int32) (k : Nat) (hk : s.toBitVec.toNat % 64 = k) (h0 : 0 < k) : ((nar .byte ((((q0.toUInt64 >>> (s &&& 0x3f).toInt64.toUInt64).toInt64).toInt32).toInt8.toInt32)) &&& (255 : Int32)).toInt = (U q0 / (2 ^ k : Nat)) % 256 := by
  have a := c_lushr q0 s k hk h0
  have b := c_l2i ((q0.toUInt64 >>> (s &&& 0x3f).toInt64.toUInt64).toInt64)
  have c := c_i2b (((q0.toUInt64 >>> (s &&& 0x3f).toInt64.toUInt64).toInt64).toInt32)
  have d : nar .byte ((((q0.toUInt64 >>> (s &&& 0x3f).toInt64.toUInt64).toInt64).toInt32).toInt8.toInt32) = (((q0.toUInt64 >>> (s &&& 0x3f).toInt64.toUInt64).toInt64).toInt32).toInt8.toInt32 := by simp [nar]
  have f := c_mask ((((q0.toUInt64 >>> (s &&& 0x3f).toInt64.toUInt64).toInt64).toInt32).toInt8.toInt32) 255 8 (by decide) (by decide)
  have p : ((2 ^ 8 : Nat) : Int) = 256 := by decide
  rw [d, f, p]
  unfold U
  omega
theorem own_byte0 (q0 : Int64) : ((nar .byte ((q0.toInt32).toInt8.toInt32)) &&& (255 : Int32)).toInt = U q0 % 256 := by
  have b := c_l2i q0
  have c := c_i2b q0.toInt32
  have d : nar .byte ((q0.toInt32).toInt8.toInt32) = (q0.toInt32).toInt8.toInt32 := by simp [nar]
  have f := c_mask ((q0.toInt32).toInt8.toInt32) 255 8 (by decide) (by decide)
  have p : ((2 ^ 8 : Nat) : Int) = 256 := by decide
  rw [d, f, p]
  unfold U
  omega
theorem own_shr_shl (x : BitVec 64) (s : Nat) : x &&& ((-1#64) <<< s) = (x >>> s) <<< s := by
  apply BitVec.eq_of_getLsbD_eq
  intro i hi
  simp only [BitVec.getLsbD_and, BitVec.getLsbD_shiftLeft, BitVec.getLsbD_ushiftRight]
  by_cases q : i < s
  · simp [q]
  · have : (-1#64) = BitVec.allOnes 64 := by decide
    rw [this, BitVec.getLsbD_allOnes]
    have e : s + (i - s) = i := by omega
    have e2 : i - s < 64 := by omega
    simp [q, hi, e, e2]
theorem own_U_nat (x : Int64) : U x = x.toBitVec.toNat := by
  unfold U
  show x.toBitVec.toInt % _ = _
  rw [BitVec.toInt_eq_toNat_bmod]
  have := x.toBitVec.isLt
  have e : (18446744073709551616 : Int) = ((2 ^ 64 : Nat) : Int) := by decide
  rw [e, Int.bmod_emod]; omega
theorem own_maskU (x m : Int64) (s : Nat) (hs : s < 64) (hm : m.toBitVec = (-1#64) <<< s) : U (x &&& m) = U x / (2 ^ s : Nat) * (2 ^ s : Nat) := by
  rw [own_U_nat, own_U_nat, Int64.toBitVec_and, hm, own_shr_shl, BitVec.toNat_shiftLeft, BitVec.toNat_ushiftRight, Nat.shiftLeft_eq, Nat.shiftRight_eq_div_pow]
  have h := x.toBitVec.isLt
  have : x.toBitVec.toNat / 2 ^ s * 2 ^ s ≤ x.toBitVec.toNat := Nat.div_mul_le_self _ _
  rw [Nat.mod_eq_of_lt (by omega)]
  simp
theorem own_from {p2 v8 : Int32} (hv8 : v8 = ((p2 &&& (2147483647 : Int32)) % (9 : Int32))) : 0 ≤ v8.toInt ∧ v8.toInt ≤ 8 := by
  have h := own_mask31 p2
  have e : (9 : Int32).toInt = 9 := by decide
  subst hv8
  rw [Int32.toInt_mod, e, Int.tmod_eq_emod_of_nonneg h.1]; omega
theorem own_plus {v8 : Int32} (h : 0 ≤ v8.toInt ∧ v8.toInt ≤ 8) (i : Nat) (hi : i < 8) : (v8 + Int32.ofNat i).toInt = v8.toInt + i := by
  have a := c_iadd v8 (Int32.ofNat i); have r := rng32 (v8 + Int32.ofNat i)
  rw [own_ofNat_toInt (by omega)] at a; omega
theorem own_hin {p2 v8 : Int32} (hv8 : v8 = ((p2 &&& (2147483647 : Int32)) % (9 : Int32))) : ∀ i : Nat, i < 8 → ¬ ((v8 + Int32.ofNat i) < 0 ∨ 16 ≤ (v8 + Int32.ofNat i).toNatClampNeg) := by
  intro i hi
  have h := own_from hv8; have q := own_plus h i hi
  have e : (0 : Int32).toInt = 0 := by decide
  have r : (v8 + Int32.ofNat i).toNatClampNeg = (v8 + Int32.ofNat i).toInt.toNat := rfl
  rw [Int32.lt_iff_toInt_lt, e, r]; omega
theorem own_hin0 {p2 v8 : Int32} (hv8 : v8 = ((p2 &&& (2147483647 : Int32)) % (9 : Int32))) : ¬ (v8 < 0 ∨ 16 ≤ v8.toNatClampNeg) := by
  have h := own_from hv8
  have e : (0 : Int32).toInt = 0 := by decide
  have r : v8.toNatClampNeg = v8.toInt.toNat := rfl
  rw [Int32.lt_iff_toInt_lt, e, r]; omega
theorem own_idx {v8 : Int32} (h : 0 ≤ v8.toInt ∧ v8.toInt ≤ 8) (i : Nat) (hi : i < 8) : (v8 + Int32.ofNat i).toNatClampNeg = v8.toNatClampNeg + i := by
  have q := own_plus h i hi
  show (v8 + Int32.ofNat i).toInt.toNat = v8.toInt.toNat + i
  omega
theorem own_full0 {Q W W' x : Int} (h0 : 0 ≤ Q) (h1 : Q < 18446744073709551616) (hW : W = 0) (hx : x = (Q / 72057594037927936) % 256) (h : W' = (W * 256) % 18446744073709551616 + x) : W' = Q / 72057594037927936 := by omega
theorem own_full1 {Q W W' x : Int} (h0 : 0 ≤ Q) (h1 : Q < 18446744073709551616) (hW : W = Q / 72057594037927936) (hx : x = (Q / 281474976710656) % 256) (h : W' = (W * 256) % 18446744073709551616 + x) : W' = Q / 281474976710656 := by omega
theorem own_full2 {Q W W' x : Int} (h0 : 0 ≤ Q) (h1 : Q < 18446744073709551616) (hW : W = Q / 281474976710656) (hx : x = (Q / 1099511627776) % 256) (h : W' = (W * 256) % 18446744073709551616 + x) : W' = Q / 1099511627776 := by omega
theorem own_full3 {Q W W' x : Int} (h0 : 0 ≤ Q) (h1 : Q < 18446744073709551616) (hW : W = Q / 1099511627776) (hx : x = (Q / 4294967296) % 256) (h : W' = (W * 256) % 18446744073709551616 + x) : W' = Q / 4294967296 := by omega
theorem own_full4 {Q W W' x : Int} (h0 : 0 ≤ Q) (h1 : Q < 18446744073709551616) (hW : W = Q / 4294967296) (hx : x = (Q / 16777216) % 256) (h : W' = (W * 256) % 18446744073709551616 + x) : W' = Q / 16777216 := by omega
theorem own_full5 {Q W W' x : Int} (h0 : 0 ≤ Q) (h1 : Q < 18446744073709551616) (hW : W = Q / 16777216) (hx : x = (Q / 65536) % 256) (h : W' = (W * 256) % 18446744073709551616 + x) : W' = Q / 65536 := by omega
theorem own_full6 {Q W W' x : Int} (h0 : 0 ≤ Q) (h1 : Q < 18446744073709551616) (hW : W = Q / 65536) (hx : x = (Q / 256) % 256) (h : W' = (W * 256) % 18446744073709551616 + x) : W' = Q / 256 := by omega
theorem own_full7 {Q W W' x : Int} (h0 : 0 ≤ Q) (h1 : Q < 18446744073709551616) (hW : W = Q / 256) (hx : x = (Q / 1) % 256) (h : W' = (W * 256) % 18446744073709551616 + x) : W' = Q / 1 := by omega
theorem own_none {W W' x : Int} (h0 : 0 ≤ W) (D : Int) (h1 : W * 256 < 18446744073709551616) (hx : x = 0) (h : W' = (W * 256) % 18446744073709551616 + x) : W' = W * 256 := by omega
theorem pre_d0 : decode prog_161_method_6_code 0 = .ok (.lconst 0, 1) := by decide +kernel
theorem pre_d1 : decode prog_161_method_6_code 1 = .ok (.lstore_n 3, 1) := by decide +kernel
theorem pre_d2 : decode prog_161_method_6_code 2 = .ok (.iconst 0, 1) := by decide +kernel
theorem pre_d3 : decode prog_161_method_6_code 3 = .ok (.istore 5, 2) := by decide +kernel
theorem pre_d5 : decode prog_161_method_6_code 5 = .ok (.iload 5, 2) := by decide +kernel
theorem pre_d7 : decode prog_161_method_6_code 7 = .ok (.bipush 8, 2) := by decide +kernel
theorem pre_d9 : decode prog_161_method_6_code 9 = .ok (.if_icmp .ge 38, 3) := by decide +kernel
theorem pre_d12 : decode prog_161_method_6_code 12 = .ok (.lload_n 3, 1) := by decide +kernel
theorem pre_d13 : decode prog_161_method_6_code 13 = .ok (.bipush 8, 2) := by decide +kernel
theorem pre_d15 : decode prog_161_method_6_code 15 = .ok (.lshl, 1) := by decide +kernel
theorem pre_d16 : decode prog_161_method_6_code 16 = .ok (.iload_n 1, 1) := by decide +kernel
theorem pre_d17 : decode prog_161_method_6_code 17 = .ok (.iload 5, 2) := by decide +kernel
theorem pre_d19 : decode prog_161_method_6_code 19 = .ok (.iadd, 1) := by decide +kernel
theorem pre_d20 : decode prog_161_method_6_code 20 = .ok (.iload_n 2, 1) := by decide +kernel
theorem pre_d21 : decode prog_161_method_6_code 21 = .ok (.if_icmp .ge 16, 3) := by decide +kernel
theorem pre_d24 : decode prog_161_method_6_code 24 = .ok (.aload_n 0, 1) := by decide +kernel
theorem pre_d25 : decode prog_161_method_6_code 25 = .ok (.iload_n 1, 1) := by decide +kernel
theorem pre_d26 : decode prog_161_method_6_code 26 = .ok (.iload 5, 2) := by decide +kernel
theorem pre_d28 : decode prog_161_method_6_code 28 = .ok (.iadd, 1) := by decide +kernel
theorem pre_d29 : decode prog_161_method_6_code 29 = .ok (.baload, 1) := by decide +kernel
theorem pre_d30 : decode prog_161_method_6_code 30 = .ok (.sipush 255, 3) := by decide +kernel
theorem pre_d33 : decode prog_161_method_6_code 33 = .ok (.iand, 1) := by decide +kernel
theorem pre_d34 : decode prog_161_method_6_code 34 = .ok (.goto 4, 3) := by decide +kernel
theorem pre_d37 : decode prog_161_method_6_code 37 = .ok (.iconst 0, 1) := by decide +kernel
theorem pre_d38 : decode prog_161_method_6_code 38 = .ok (.i2l, 1) := by decide +kernel
theorem pre_d39 : decode prog_161_method_6_code 39 = .ok (.lor, 1) := by decide +kernel
theorem pre_d40 : decode prog_161_method_6_code 40 = .ok (.lstore_n 3, 1) := by decide +kernel
theorem pre_d41 : decode prog_161_method_6_code 41 = .ok (.iinc 5 1, 3) := by decide +kernel
theorem pre_d44 : decode prog_161_method_6_code 44 = .ok (.goto (-39), 3) := by decide +kernel
theorem pre_d47 : decode prog_161_method_6_code 47 = .ok (.lload_n 3, 1) := by decide +kernel
theorem pre_d48 : decode prog_161_method_6_code 48 = .ok (.lreturn, 1) := by decide +kernel
theorem pre_pn : plainName "com/example/termwright/termwright/TermIndex$Runs" = true := by first | (simp [plainName, overriddenIn]; done) | decide +kernel
theorem pre_ef (m : MethodId) (x0 : Addr) (x1 : Int32) (x2 : Int32) : entryFrame m #[(.ref x0), (.int x1), (.int x2)] 6 = mkF m 0 #[.val (.ref x0), .val (.int x1), .val (.int x2), .unset, .unset, .unset] [] := by first | (simp [entryFrame, mkF, argsToLocals, Value.category]; done) | rfl
def fPre (p1 : Int32) (p2 : Int32) (fa : Nat → Int32) : Int64 :=
  let j38_s0 : Int32 := (if (p1 + (0 : Int32)) < p2 then ((fa ((p1 + (0 : Int32))).toNatClampNeg) &&& (255 : Int32)) else (0 : Int32))
  let v40 : Int64 := (((0 : Int64) <<< ((8 : Int32) &&& 0x3f).toInt64) ||| (j38_s0.toInt64))
  let j38_s0_1 : Int32 := (if (p1 + (1 : Int32)) < p2 then ((fa ((p1 + (1 : Int32))).toNatClampNeg) &&& (255 : Int32)) else (0 : Int32))
  let v40_1 : Int64 := ((v40 <<< ((8 : Int32) &&& 0x3f).toInt64) ||| (j38_s0_1.toInt64))
  let j38_s0_2 : Int32 := (if (p1 + (2 : Int32)) < p2 then ((fa ((p1 + (2 : Int32))).toNatClampNeg) &&& (255 : Int32)) else (0 : Int32))
  let v40_2 : Int64 := ((v40_1 <<< ((8 : Int32) &&& 0x3f).toInt64) ||| (j38_s0_2.toInt64))
  let j38_s0_3 : Int32 := (if (p1 + (3 : Int32)) < p2 then ((fa ((p1 + (3 : Int32))).toNatClampNeg) &&& (255 : Int32)) else (0 : Int32))
  let v40_3 : Int64 := ((v40_2 <<< ((8 : Int32) &&& 0x3f).toInt64) ||| (j38_s0_3.toInt64))
  let j38_s0_4 : Int32 := (if (p1 + (4 : Int32)) < p2 then ((fa ((p1 + (4 : Int32))).toNatClampNeg) &&& (255 : Int32)) else (0 : Int32))
  let v40_4 : Int64 := ((v40_3 <<< ((8 : Int32) &&& 0x3f).toInt64) ||| (j38_s0_4.toInt64))
  let j38_s0_5 : Int32 := (if (p1 + (5 : Int32)) < p2 then ((fa ((p1 + (5 : Int32))).toNatClampNeg) &&& (255 : Int32)) else (0 : Int32))
  let v40_5 : Int64 := ((v40_4 <<< ((8 : Int32) &&& 0x3f).toInt64) ||| (j38_s0_5.toInt64))
  let j38_s0_6 : Int32 := (if (p1 + (6 : Int32)) < p2 then ((fa ((p1 + (6 : Int32))).toNatClampNeg) &&& (255 : Int32)) else (0 : Int32))
  let v40_6 : Int64 := ((v40_5 <<< ((8 : Int32) &&& 0x3f).toInt64) ||| (j38_s0_6.toInt64))
  let j38_s0_7 : Int32 := (if (p1 + (7 : Int32)) < p2 then ((fa ((p1 + (7 : Int32))).toNatClampNeg) &&& (255 : Int32)) else (0 : Int32))
  let v40_7 : Int64 := ((v40_6 <<< ((8 : Int32) &&& 0x3f).toInt64) ||| (j38_s0_7.toInt64))
  v40_7
set_option maxRecDepth 65536 in
set_option maxHeartbeats 40000000 in
theorem rm_pre (l : Launch) (Z : State) (a0 : Array Value) (hw : ∀ d ∈ tables_1, d.before a0 Z = true) (ws : List Jvm.Cond) (r0 : Addr) (p1 : Int32) (p2 : Int32) (fa : Nat → Int32) (h0 : Heap) (n0 : Nat) (Z0 : n0 ≤ h0.size) (Va : IA Z h0 r0 .byte 16 fa) (hin : ∀ i : Nat, i < 8 → ¬ ((p1 + Int32.ofNat i) < 0 ∨ 16 ≤ (p1 + Int32.ofNat i).toNatClampNeg)) :
    MetFree l (⟨"com/example/termwright/termwright/TermIndex$Runs", "prefix", "([BII)J"⟩ : MethodName) (head1 (Jvm.Cond.code (⟨"com/example/termwright/termwright/TermIndex$Runs", "prefix", "([BII)J"⟩ : MethodName) prog_161_method_6_code 6 (some .long) :: ws) ({ frames := 0, cells := 0, slots := 0, locals := 0 } : Room)) (fun a U => a = #[(.ref r0), (.int p1), (.int p2)] ∧ Z.Warmed39 U.vm ∧ U.heap = h0) (fun _ _ _ _ _ => True) (fun _ U o U' => ∃ v L, o = .returned v ∧ QP (.long (fPre p1 p2 fa)) h0 n0 v U'.heap L ∧ FrameEnd U o U' L ({ frames := 0, cells := 0, slots := 0, locals := 0 } : Room).cells ({ frames := 0, cells := 0, slots := 0, locals := 0 } : Room).slots) := by
  refine MetFree.of_bodySF (plainFor_of_name pre_pn) hisR ?_
  intro p e s m args below meth c s₁ Bd hml0 hP hK
  obtain ⟨rfl, hZ, hh⟩ := hP
  have hx := Bd.exec
  have hby := Bd.bytes
  have hml : c.maxLocals = 6 := hml0
  have hown : s.vm.findClass "com/example/termwright/termwright/TermIndex$Runs" = some m.cls := findClass_of_methodNamed Bd.named
  have hnm := (name_of_methodNamed Bd.named Bd.method).1
  have X0 : Stand p l e ({ frames := 0, cells := 0, slots := 0, locals := 0 } : Room) s m #[(.ref r0), (.int p1), (.int p2)] below meth c s₁ [] 0 0 := Stand.of_body Bd
  have e0 : s₁.heap = h0 := by rw [← hh, Bd.state]; rfl
  have N0 := Fr.nil n0
  obtain ⟨P0, hP0⟩ : ∃ P0 : State → Prop, P0 = fun t => Steps p.tables e below (s₁.setTop (entryFrame m #[(.ref r0), (.int p1), (.int p2)] 6)) t := ⟨_, rfl⟩
  have K0 : ∀ t, Steps p.tables e below (s₁.setTop (mkF m 0 #[.val (.ref r0), .val (.int p1), .val (.int p2), .unset, .unset, .unset] [])) t → P0 t := by
    intro t k; rw [hP0]; exact castTop (pre_ef m r0 p1 p2) k
  have K1 : ∀ t, Steps p.tables e below (s₁.setTop (mkF m 21 #[.val (.ref r0), .val (.int p1), .val (.int p2), .val (.long (0 : Int64)), .second, .val (.int (0 : Int32))] [(.int p2), (.int (p1 + (0 : Int32))), (.long ((0 : Int64) <<< ((8 : Int32) &&& 0x3f).toInt64))])) t → P0 t := by
    intro t kt
    refine K0 t ?_
    show Steps p.tables e below (s₁.setTop (mkF m 0 #[.val (.ref r0), .val (.int p1), .val (.int p2), .unset, .unset, .unset] [])) t
    refine XS.lconst X0.here hx rfl (hb hby pre_d0) ?_
    show Steps p.tables e below (s₁.setTop (mkF m 1 #[.val (.ref r0), .val (.int p1), .val (.int p2), .unset, .unset, .unset] [(.long (0 : Int64))])) t
    refine XS.lstoreN X0.here hx rfl (hb hby pre_d1) rfl (l' := #[.val (.ref r0), .val (.int p1), .val (.int p2), .val (.long (0 : Int64)), .second, .unset]) rfl ?_
    show Steps p.tables e below (s₁.setTop (mkF m 2 #[.val (.ref r0), .val (.int p1), .val (.int p2), .val (.long (0 : Int64)), .second, .unset] [])) t
    refine XS.iconst X0.here hx rfl (hb hby pre_d2) ?_
    show Steps p.tables e below (s₁.setTop (mkF m 3 #[.val (.ref r0), .val (.int p1), .val (.int p2), .val (.long (0 : Int64)), .second, .unset] [(.int (0 : Int32))])) t
    refine XS.istore X0.here hx rfl (hb hby pre_d3) rfl (l' := #[.val (.ref r0), .val (.int p1), .val (.int p2), .val (.long (0 : Int64)), .second, .val (.int (0 : Int32))]) rfl ?_
    show Steps p.tables e below (s₁.setTop (mkF m 5 #[.val (.ref r0), .val (.int p1), .val (.int p2), .val (.long (0 : Int64)), .second, .val (.int (0 : Int32))] [])) t
    refine XS.iload X0.here hx rfl (hb hby pre_d5) rfl ?_
    show Steps p.tables e below (s₁.setTop (mkF m 7 #[.val (.ref r0), .val (.int p1), .val (.int p2), .val (.long (0 : Int64)), .second, .val (.int (0 : Int32))] [(.int (0 : Int32))])) t
    refine XS.bipush X0.here hx rfl (hb hby pre_d7) ?_
    show Steps p.tables e below (s₁.setTop (mkF m 9 #[.val (.ref r0), .val (.int p1), .val (.int p2), .val (.long (0 : Int64)), .second, .val (.int (0 : Int32))] [(.int (8 : Int32)), (.int (0 : Int32))])) t
    refine XS.icmpNo X0.here hx rfl (hb hby pre_d9) rfl (tlt (by decide)).2.1 ?_
    show Steps p.tables e below (s₁.setTop (mkF m 12 #[.val (.ref r0), .val (.int p1), .val (.int p2), .val (.long (0 : Int64)), .second, .val (.int (0 : Int32))] [])) t
    refine XS.lloadN X0.here hx rfl (hb hby pre_d12) rfl ?_
    show Steps p.tables e below (s₁.setTop (mkF m 13 #[.val (.ref r0), .val (.int p1), .val (.int p2), .val (.long (0 : Int64)), .second, .val (.int (0 : Int32))] [(.long (0 : Int64))])) t
    refine XS.bipush X0.here hx rfl (hb hby pre_d13) ?_
    show Steps p.tables e below (s₁.setTop (mkF m 15 #[.val (.ref r0), .val (.int p1), .val (.int p2), .val (.long (0 : Int64)), .second, .val (.int (0 : Int32))] [(.int (8 : Int32)), (.long (0 : Int64))])) t
    refine XS.lshl X0.here hx rfl (hb hby pre_d15) rfl ?_
    show Steps p.tables e below (s₁.setTop (mkF m 16 #[.val (.ref r0), .val (.int p1), .val (.int p2), .val (.long (0 : Int64)), .second, .val (.int (0 : Int32))] [(.long ((0 : Int64) <<< ((8 : Int32) &&& 0x3f).toInt64))])) t
    refine XS.iloadN X0.here hx rfl (hb hby pre_d16) rfl ?_
    show Steps p.tables e below (s₁.setTop (mkF m 17 #[.val (.ref r0), .val (.int p1), .val (.int p2), .val (.long (0 : Int64)), .second, .val (.int (0 : Int32))] [(.int p1), (.long ((0 : Int64) <<< ((8 : Int32) &&& 0x3f).toInt64))])) t
    refine XS.iload X0.here hx rfl (hb hby pre_d17) rfl ?_
    show Steps p.tables e below (s₁.setTop (mkF m 19 #[.val (.ref r0), .val (.int p1), .val (.int p2), .val (.long (0 : Int64)), .second, .val (.int (0 : Int32))] [(.int (0 : Int32)), (.int p1), (.long ((0 : Int64) <<< ((8 : Int32) &&& 0x3f).toInt64))])) t
    refine XS.iadd X0.here hx rfl (hb hby pre_d19) rfl ?_
    show Steps p.tables e below (s₁.setTop (mkF m 20 #[.val (.ref r0), .val (.int p1), .val (.int p2), .val (.long (0 : Int64)), .second, .val (.int (0 : Int32))] [(.int (p1 + (0 : Int32))), (.long ((0 : Int64) <<< ((8 : Int32) &&& 0x3f).toInt64))])) t
    refine XS.iloadN X0.here hx rfl (hb hby pre_d20) rfl ?_
    exact kt
  obtain ⟨j38_s0, hj38_s0, K4⟩ : ∃ (j38_s0 : Int32), j38_s0 = (if (p1 + (0 : Int32)) < p2 then ((fa ((p1 + (0 : Int32))).toNatClampNeg) &&& (255 : Int32)) else (0 : Int32)) ∧ ∀ t, Steps p.tables e below (s₁.setTop (mkF m 38 #[.val (.ref r0), .val (.int p1), .val (.int p2), .val (.long (0 : Int64)), .second, .val (.int (0 : Int32))] [(.int j38_s0), (.long ((0 : Int64) <<< ((8 : Int32) &&& 0x3f).toInt64))])) t → P0 t := by
    by_cases hc21 : (p1 + (0 : Int32)) < p2
    · have K2 : ∀ t, Steps p.tables e below (s₁.setTop (mkF m 38 #[.val (.ref r0), .val (.int p1), .val (.int p2), .val (.long (0 : Int64)), .second, .val (.int (0 : Int32))] [(.int ((fa ((p1 + (0 : Int32))).toNatClampNeg) &&& (255 : Int32))), (.long ((0 : Int64) <<< ((8 : Int32) &&& 0x3f).toInt64))])) t → P0 t := by
        intro t kt
        refine K1 t ?_
        show Steps p.tables e below (s₁.setTop (mkF m 21 #[.val (.ref r0), .val (.int p1), .val (.int p2), .val (.long (0 : Int64)), .second, .val (.int (0 : Int32))] [(.int p2), (.int (p1 + (0 : Int32))), (.long ((0 : Int64) <<< ((8 : Int32) &&& 0x3f).toInt64))])) t
        refine XS.icmpNo X0.here hx rfl (hb hby pre_d21) rfl (tlt hc21).2.1 ?_
        show Steps p.tables e below (s₁.setTop (mkF m 24 #[.val (.ref r0), .val (.int p1), .val (.int p2), .val (.long (0 : Int64)), .second, .val (.int (0 : Int32))] [(.long ((0 : Int64) <<< ((8 : Int32) &&& 0x3f).toInt64))])) t
        refine XS.aloadN X0.here hx rfl (hb hby pre_d24) rfl rfl ?_
        show Steps p.tables e below (s₁.setTop (mkF m 25 #[.val (.ref r0), .val (.int p1), .val (.int p2), .val (.long (0 : Int64)), .second, .val (.int (0 : Int32))] [(.ref r0), (.long ((0 : Int64) <<< ((8 : Int32) &&& 0x3f).toInt64))])) t
        refine XS.iloadN X0.here hx rfl (hb hby pre_d25) rfl ?_
        show Steps p.tables e below (s₁.setTop (mkF m 26 #[.val (.ref r0), .val (.int p1), .val (.int p2), .val (.long (0 : Int64)), .second, .val (.int (0 : Int32))] [(.int p1), (.ref r0), (.long ((0 : Int64) <<< ((8 : Int32) &&& 0x3f).toInt64))])) t
        refine XS.iload X0.here hx rfl (hb hby pre_d26) rfl ?_
        show Steps p.tables e below (s₁.setTop (mkF m 28 #[.val (.ref r0), .val (.int p1), .val (.int p2), .val (.long (0 : Int64)), .second, .val (.int (0 : Int32))] [(.int (0 : Int32)), (.int p1), (.ref r0), (.long ((0 : Int64) <<< ((8 : Int32) &&& 0x3f).toInt64))])) t
        refine XS.iadd X0.here hx rfl (hb hby pre_d28) rfl ?_
        show Steps p.tables e below (s₁.setTop (mkF m 29 #[.val (.ref r0), .val (.int p1), .val (.int p2), .val (.long (0 : Int64)), .second, .val (.int (0 : Int32))] [(.int (p1 + (0 : Int32))), (.ref r0), (.long ((0 : Int64) <<< ((8 : Int32) &&& 0x3f).toInt64))])) t
        refine ldBA X0 hx hZ e0 Va (j := (p1 + (0 : Int32))) (hin 0 (by decide)) (g := (mkF m 29 #[.val (.ref r0), .val (.int p1), .val (.int p2), .val (.long (0 : Int64)), .second, .val (.int (0 : Int32))] [(.int (p1 + (0 : Int32))), (.ref r0), (.long ((0 : Int64) <<< ((8 : Int32) &&& 0x3f).toInt64))])) rfl rfl (hb hby pre_d29) _ ?_
        show Steps p.tables e below (s₁.setTop (mkF m 30 #[.val (.ref r0), .val (.int p1), .val (.int p2), .val (.long (0 : Int64)), .second, .val (.int (0 : Int32))] [(.int (fa ((p1 + (0 : Int32))).toNatClampNeg)), (.long ((0 : Int64) <<< ((8 : Int32) &&& 0x3f).toInt64))])) t
        refine XS.sipush X0.here hx rfl (hb hby pre_d30) ?_
        show Steps p.tables e below (s₁.setTop (mkF m 33 #[.val (.ref r0), .val (.int p1), .val (.int p2), .val (.long (0 : Int64)), .second, .val (.int (0 : Int32))] [(.int (255 : Int32)), (.int (fa ((p1 + (0 : Int32))).toNatClampNeg)), (.long ((0 : Int64) <<< ((8 : Int32) &&& 0x3f).toInt64))])) t
        refine XS.iand X0.here hx rfl (hb hby pre_d33) rfl ?_
        show Steps p.tables e below (s₁.setTop (mkF m 34 #[.val (.ref r0), .val (.int p1), .val (.int p2), .val (.long (0 : Int64)), .second, .val (.int (0 : Int32))] [(.int ((fa ((p1 + (0 : Int32))).toNatClampNeg) &&& (255 : Int32))), (.long ((0 : Int64) <<< ((8 : Int32) &&& 0x3f).toInt64))])) t
        refine XS.goto X0.here hx rfl (pc0 := 34) (pc' := 38) rfl (hb hby pre_d34) (by decide) (by decide) ?_
        exact kt
      exact ⟨_, (if_pos hc21).symm, K2⟩
    · have K3 : ∀ t, Steps p.tables e below (s₁.setTop (mkF m 38 #[.val (.ref r0), .val (.int p1), .val (.int p2), .val (.long (0 : Int64)), .second, .val (.int (0 : Int32))] [(.int (0 : Int32)), (.long ((0 : Int64) <<< ((8 : Int32) &&& 0x3f).toInt64))])) t → P0 t := by
        intro t kt
        refine K1 t ?_
        show Steps p.tables e below (s₁.setTop (mkF m 21 #[.val (.ref r0), .val (.int p1), .val (.int p2), .val (.long (0 : Int64)), .second, .val (.int (0 : Int32))] [(.int p2), (.int (p1 + (0 : Int32))), (.long ((0 : Int64) <<< ((8 : Int32) &&& 0x3f).toInt64))])) t
        refine XS.icmpYes X0.here hx rfl (pc0 := 21) (pc' := 37) rfl (hb hby pre_d21) rfl (flt hc21).2.1 (by decide) (by decide) ?_
        show Steps p.tables e below (s₁.setTop (mkF m 37 #[.val (.ref r0), .val (.int p1), .val (.int p2), .val (.long (0 : Int64)), .second, .val (.int (0 : Int32))] [(.long ((0 : Int64) <<< ((8 : Int32) &&& 0x3f).toInt64))])) t
        refine XS.iconst X0.here hx rfl (hb hby pre_d37) ?_
        exact kt
      exact ⟨_, (if_neg hc21).symm, K3⟩
  have K5 : ∀ t, Steps p.tables e below (s₁.setTop (mkF m 41 #[.val (.ref r0), .val (.int p1), .val (.int p2), .val (.long (((0 : Int64) <<< ((8 : Int32) &&& 0x3f).toInt64) ||| (j38_s0.toInt64))), .second, .val (.int (0 : Int32))] [])) t → P0 t := by
    intro t kt
    refine K4 t ?_
    show Steps p.tables e below (s₁.setTop (mkF m 38 #[.val (.ref r0), .val (.int p1), .val (.int p2), .val (.long (0 : Int64)), .second, .val (.int (0 : Int32))] [(.int j38_s0), (.long ((0 : Int64) <<< ((8 : Int32) &&& 0x3f).toInt64))])) t
    refine XS.i2l X0.here hx rfl (hb hby pre_d38) rfl ?_
    show Steps p.tables e below (s₁.setTop (mkF m 39 #[.val (.ref r0), .val (.int p1), .val (.int p2), .val (.long (0 : Int64)), .second, .val (.int (0 : Int32))] [(.long (j38_s0.toInt64)), (.long ((0 : Int64) <<< ((8 : Int32) &&& 0x3f).toInt64))])) t
    refine XS.lor X0.here hx rfl (hb hby pre_d39) rfl ?_
    show Steps p.tables e below (s₁.setTop (mkF m 40 #[.val (.ref r0), .val (.int p1), .val (.int p2), .val (.long (0 : Int64)), .second, .val (.int (0 : Int32))] [(.long (((0 : Int64) <<< ((8 : Int32) &&& 0x3f).toInt64) ||| (j38_s0.toInt64)))])) t
    refine XS.lstoreN X0.here hx rfl (hb hby pre_d40) rfl (l' := #[.val (.ref r0), .val (.int p1), .val (.int p2), .val (.long (((0 : Int64) <<< ((8 : Int32) &&& 0x3f).toInt64) ||| (j38_s0.toInt64))), .second, .val (.int (0 : Int32))]) rfl ?_
    exact kt
  obtain ⟨v40, hv40, K6⟩ : ∃ v40 : Int64, v40 = (((0 : Int64) <<< ((8 : Int32) &&& 0x3f).toInt64) ||| (j38_s0.toInt64)) ∧ ∀ t, Steps p.tables e below (s₁.setTop (mkF m 41 #[.val (.ref r0), .val (.int p1), .val (.int p2), .val (.long v40), .second, .val (.int (0 : Int32))] [])) t → P0 t := ⟨_, rfl, K5⟩
  have K7 : ∀ t, Steps p.tables e below (s₁.setTop (mkF m 21 #[.val (.ref r0), .val (.int p1), .val (.int p2), .val (.long v40), .second, .val (.int (1 : Int32))] [(.int p2), (.int (p1 + (1 : Int32))), (.long (v40 <<< ((8 : Int32) &&& 0x3f).toInt64))])) t → P0 t := by
    intro t kt
    refine K6 t ?_
    show Steps p.tables e below (s₁.setTop (mkF m 41 #[.val (.ref r0), .val (.int p1), .val (.int p2), .val (.long v40), .second, .val (.int (0 : Int32))] [])) t
    refine XS.iinc X0.here hx rfl (hb hby pre_d41) rfl (l' := #[.val (.ref r0), .val (.int p1), .val (.int p2), .val (.long v40), .second, .val (.int (1 : Int32))]) rfl ?_
    show Steps p.tables e below (s₁.setTop (mkF m 44 #[.val (.ref r0), .val (.int p1), .val (.int p2), .val (.long v40), .second, .val (.int (1 : Int32))] [])) t
    refine XS.goto X0.here hx rfl (pc0 := 44) (pc' := 5) rfl (hb hby pre_d44) (by decide) (by decide) ?_
    show Steps p.tables e below (s₁.setTop (mkF m 5 #[.val (.ref r0), .val (.int p1), .val (.int p2), .val (.long v40), .second, .val (.int (1 : Int32))] [])) t
    refine XS.iload X0.here hx rfl (hb hby pre_d5) rfl ?_
    show Steps p.tables e below (s₁.setTop (mkF m 7 #[.val (.ref r0), .val (.int p1), .val (.int p2), .val (.long v40), .second, .val (.int (1 : Int32))] [(.int (1 : Int32))])) t
    refine XS.bipush X0.here hx rfl (hb hby pre_d7) ?_
    show Steps p.tables e below (s₁.setTop (mkF m 9 #[.val (.ref r0), .val (.int p1), .val (.int p2), .val (.long v40), .second, .val (.int (1 : Int32))] [(.int (8 : Int32)), (.int (1 : Int32))])) t
    refine XS.icmpNo X0.here hx rfl (hb hby pre_d9) rfl (tlt (by decide)).2.1 ?_
    show Steps p.tables e below (s₁.setTop (mkF m 12 #[.val (.ref r0), .val (.int p1), .val (.int p2), .val (.long v40), .second, .val (.int (1 : Int32))] [])) t
    refine XS.lloadN X0.here hx rfl (hb hby pre_d12) rfl ?_
    show Steps p.tables e below (s₁.setTop (mkF m 13 #[.val (.ref r0), .val (.int p1), .val (.int p2), .val (.long v40), .second, .val (.int (1 : Int32))] [(.long v40)])) t
    refine XS.bipush X0.here hx rfl (hb hby pre_d13) ?_
    show Steps p.tables e below (s₁.setTop (mkF m 15 #[.val (.ref r0), .val (.int p1), .val (.int p2), .val (.long v40), .second, .val (.int (1 : Int32))] [(.int (8 : Int32)), (.long v40)])) t
    refine XS.lshl X0.here hx rfl (hb hby pre_d15) rfl ?_
    show Steps p.tables e below (s₁.setTop (mkF m 16 #[.val (.ref r0), .val (.int p1), .val (.int p2), .val (.long v40), .second, .val (.int (1 : Int32))] [(.long (v40 <<< ((8 : Int32) &&& 0x3f).toInt64))])) t
    refine XS.iloadN X0.here hx rfl (hb hby pre_d16) rfl ?_
    show Steps p.tables e below (s₁.setTop (mkF m 17 #[.val (.ref r0), .val (.int p1), .val (.int p2), .val (.long v40), .second, .val (.int (1 : Int32))] [(.int p1), (.long (v40 <<< ((8 : Int32) &&& 0x3f).toInt64))])) t
    refine XS.iload X0.here hx rfl (hb hby pre_d17) rfl ?_
    show Steps p.tables e below (s₁.setTop (mkF m 19 #[.val (.ref r0), .val (.int p1), .val (.int p2), .val (.long v40), .second, .val (.int (1 : Int32))] [(.int (1 : Int32)), (.int p1), (.long (v40 <<< ((8 : Int32) &&& 0x3f).toInt64))])) t
    refine XS.iadd X0.here hx rfl (hb hby pre_d19) rfl ?_
    show Steps p.tables e below (s₁.setTop (mkF m 20 #[.val (.ref r0), .val (.int p1), .val (.int p2), .val (.long v40), .second, .val (.int (1 : Int32))] [(.int (p1 + (1 : Int32))), (.long (v40 <<< ((8 : Int32) &&& 0x3f).toInt64))])) t
    refine XS.iloadN X0.here hx rfl (hb hby pre_d20) rfl ?_
    exact kt
  obtain ⟨j38_s0_1, hj38_s0_1, K10⟩ : ∃ (j38_s0_1 : Int32), j38_s0_1 = (if (p1 + (1 : Int32)) < p2 then ((fa ((p1 + (1 : Int32))).toNatClampNeg) &&& (255 : Int32)) else (0 : Int32)) ∧ ∀ t, Steps p.tables e below (s₁.setTop (mkF m 38 #[.val (.ref r0), .val (.int p1), .val (.int p2), .val (.long v40), .second, .val (.int (1 : Int32))] [(.int j38_s0_1), (.long (v40 <<< ((8 : Int32) &&& 0x3f).toInt64))])) t → P0 t := by
    by_cases hc21_1 : (p1 + (1 : Int32)) < p2
    · have K8 : ∀ t, Steps p.tables e below (s₁.setTop (mkF m 38 #[.val (.ref r0), .val (.int p1), .val (.int p2), .val (.long v40), .second, .val (.int (1 : Int32))] [(.int ((fa ((p1 + (1 : Int32))).toNatClampNeg) &&& (255 : Int32))), (.long (v40 <<< ((8 : Int32) &&& 0x3f).toInt64))])) t → P0 t := by
        intro t kt
        refine K7 t ?_
        show Steps p.tables e below (s₁.setTop (mkF m 21 #[.val (.ref r0), .val (.int p1), .val (.int p2), .val (.long v40), .second, .val (.int (1 : Int32))] [(.int p2), (.int (p1 + (1 : Int32))), (.long (v40 <<< ((8 : Int32) &&& 0x3f).toInt64))])) t
        refine XS.icmpNo X0.here hx rfl (hb hby pre_d21) rfl (tlt hc21_1).2.1 ?_
        show Steps p.tables e below (s₁.setTop (mkF m 24 #[.val (.ref r0), .val (.int p1), .val (.int p2), .val (.long v40), .second, .val (.int (1 : Int32))] [(.long (v40 <<< ((8 : Int32) &&& 0x3f).toInt64))])) t
        refine XS.aloadN X0.here hx rfl (hb hby pre_d24) rfl rfl ?_
        show Steps p.tables e below (s₁.setTop (mkF m 25 #[.val (.ref r0), .val (.int p1), .val (.int p2), .val (.long v40), .second, .val (.int (1 : Int32))] [(.ref r0), (.long (v40 <<< ((8 : Int32) &&& 0x3f).toInt64))])) t
        refine XS.iloadN X0.here hx rfl (hb hby pre_d25) rfl ?_
        show Steps p.tables e below (s₁.setTop (mkF m 26 #[.val (.ref r0), .val (.int p1), .val (.int p2), .val (.long v40), .second, .val (.int (1 : Int32))] [(.int p1), (.ref r0), (.long (v40 <<< ((8 : Int32) &&& 0x3f).toInt64))])) t
        refine XS.iload X0.here hx rfl (hb hby pre_d26) rfl ?_
        show Steps p.tables e below (s₁.setTop (mkF m 28 #[.val (.ref r0), .val (.int p1), .val (.int p2), .val (.long v40), .second, .val (.int (1 : Int32))] [(.int (1 : Int32)), (.int p1), (.ref r0), (.long (v40 <<< ((8 : Int32) &&& 0x3f).toInt64))])) t
        refine XS.iadd X0.here hx rfl (hb hby pre_d28) rfl ?_
        show Steps p.tables e below (s₁.setTop (mkF m 29 #[.val (.ref r0), .val (.int p1), .val (.int p2), .val (.long v40), .second, .val (.int (1 : Int32))] [(.int (p1 + (1 : Int32))), (.ref r0), (.long (v40 <<< ((8 : Int32) &&& 0x3f).toInt64))])) t
        refine ldBA X0 hx hZ e0 Va (j := (p1 + (1 : Int32))) (hin 1 (by decide)) (g := (mkF m 29 #[.val (.ref r0), .val (.int p1), .val (.int p2), .val (.long v40), .second, .val (.int (1 : Int32))] [(.int (p1 + (1 : Int32))), (.ref r0), (.long (v40 <<< ((8 : Int32) &&& 0x3f).toInt64))])) rfl rfl (hb hby pre_d29) _ ?_
        show Steps p.tables e below (s₁.setTop (mkF m 30 #[.val (.ref r0), .val (.int p1), .val (.int p2), .val (.long v40), .second, .val (.int (1 : Int32))] [(.int (fa ((p1 + (1 : Int32))).toNatClampNeg)), (.long (v40 <<< ((8 : Int32) &&& 0x3f).toInt64))])) t
        refine XS.sipush X0.here hx rfl (hb hby pre_d30) ?_
        show Steps p.tables e below (s₁.setTop (mkF m 33 #[.val (.ref r0), .val (.int p1), .val (.int p2), .val (.long v40), .second, .val (.int (1 : Int32))] [(.int (255 : Int32)), (.int (fa ((p1 + (1 : Int32))).toNatClampNeg)), (.long (v40 <<< ((8 : Int32) &&& 0x3f).toInt64))])) t
        refine XS.iand X0.here hx rfl (hb hby pre_d33) rfl ?_
        show Steps p.tables e below (s₁.setTop (mkF m 34 #[.val (.ref r0), .val (.int p1), .val (.int p2), .val (.long v40), .second, .val (.int (1 : Int32))] [(.int ((fa ((p1 + (1 : Int32))).toNatClampNeg) &&& (255 : Int32))), (.long (v40 <<< ((8 : Int32) &&& 0x3f).toInt64))])) t
        refine XS.goto X0.here hx rfl (pc0 := 34) (pc' := 38) rfl (hb hby pre_d34) (by decide) (by decide) ?_
        exact kt
      exact ⟨_, (if_pos hc21_1).symm, K8⟩
    · have K9 : ∀ t, Steps p.tables e below (s₁.setTop (mkF m 38 #[.val (.ref r0), .val (.int p1), .val (.int p2), .val (.long v40), .second, .val (.int (1 : Int32))] [(.int (0 : Int32)), (.long (v40 <<< ((8 : Int32) &&& 0x3f).toInt64))])) t → P0 t := by
        intro t kt
        refine K7 t ?_
        show Steps p.tables e below (s₁.setTop (mkF m 21 #[.val (.ref r0), .val (.int p1), .val (.int p2), .val (.long v40), .second, .val (.int (1 : Int32))] [(.int p2), (.int (p1 + (1 : Int32))), (.long (v40 <<< ((8 : Int32) &&& 0x3f).toInt64))])) t
        refine XS.icmpYes X0.here hx rfl (pc0 := 21) (pc' := 37) rfl (hb hby pre_d21) rfl (flt hc21_1).2.1 (by decide) (by decide) ?_
        show Steps p.tables e below (s₁.setTop (mkF m 37 #[.val (.ref r0), .val (.int p1), .val (.int p2), .val (.long v40), .second, .val (.int (1 : Int32))] [(.long (v40 <<< ((8 : Int32) &&& 0x3f).toInt64))])) t
        refine XS.iconst X0.here hx rfl (hb hby pre_d37) ?_
        exact kt
      exact ⟨_, (if_neg hc21_1).symm, K9⟩
  have K11 : ∀ t, Steps p.tables e below (s₁.setTop (mkF m 41 #[.val (.ref r0), .val (.int p1), .val (.int p2), .val (.long ((v40 <<< ((8 : Int32) &&& 0x3f).toInt64) ||| (j38_s0_1.toInt64))), .second, .val (.int (1 : Int32))] [])) t → P0 t := by
    intro t kt
    refine K10 t ?_
    show Steps p.tables e below (s₁.setTop (mkF m 38 #[.val (.ref r0), .val (.int p1), .val (.int p2), .val (.long v40), .second, .val (.int (1 : Int32))] [(.int j38_s0_1), (.long (v40 <<< ((8 : Int32) &&& 0x3f).toInt64))])) t
    refine XS.i2l X0.here hx rfl (hb hby pre_d38) rfl ?_
    show Steps p.tables e below (s₁.setTop (mkF m 39 #[.val (.ref r0), .val (.int p1), .val (.int p2), .val (.long v40), .second, .val (.int (1 : Int32))] [(.long (j38_s0_1.toInt64)), (.long (v40 <<< ((8 : Int32) &&& 0x3f).toInt64))])) t
    refine XS.lor X0.here hx rfl (hb hby pre_d39) rfl ?_
    show Steps p.tables e below (s₁.setTop (mkF m 40 #[.val (.ref r0), .val (.int p1), .val (.int p2), .val (.long v40), .second, .val (.int (1 : Int32))] [(.long ((v40 <<< ((8 : Int32) &&& 0x3f).toInt64) ||| (j38_s0_1.toInt64)))])) t
    refine XS.lstoreN X0.here hx rfl (hb hby pre_d40) rfl (l' := #[.val (.ref r0), .val (.int p1), .val (.int p2), .val (.long ((v40 <<< ((8 : Int32) &&& 0x3f).toInt64) ||| (j38_s0_1.toInt64))), .second, .val (.int (1 : Int32))]) rfl ?_
    exact kt
  obtain ⟨v40_1, hv40_1, K12⟩ : ∃ v40_1 : Int64, v40_1 = ((v40 <<< ((8 : Int32) &&& 0x3f).toInt64) ||| (j38_s0_1.toInt64)) ∧ ∀ t, Steps p.tables e below (s₁.setTop (mkF m 41 #[.val (.ref r0), .val (.int p1), .val (.int p2), .val (.long v40_1), .second, .val (.int (1 : Int32))] [])) t → P0 t := ⟨_, rfl, K11⟩
  have K13 : ∀ t, Steps p.tables e below (s₁.setTop (mkF m 21 #[.val (.ref r0), .val (.int p1), .val (.int p2), .val (.long v40_1), .second, .val (.int (2 : Int32))] [(.int p2), (.int (p1 + (2 : Int32))), (.long (v40_1 <<< ((8 : Int32) &&& 0x3f).toInt64))])) t → P0 t := by
    intro t kt
    refine K12 t ?_
    show Steps p.tables e below (s₁.setTop (mkF m 41 #[.val (.ref r0), .val (.int p1), .val (.int p2), .val (.long v40_1), .second, .val (.int (1 : Int32))] [])) t
    refine XS.iinc X0.here hx rfl (hb hby pre_d41) rfl (l' := #[.val (.ref r0), .val (.int p1), .val (.int p2), .val (.long v40_1), .second, .val (.int (2 : Int32))]) rfl ?_
    show Steps p.tables e below (s₁.setTop (mkF m 44 #[.val (.ref r0), .val (.int p1), .val (.int p2), .val (.long v40_1), .second, .val (.int (2 : Int32))] [])) t
    refine XS.goto X0.here hx rfl (pc0 := 44) (pc' := 5) rfl (hb hby pre_d44) (by decide) (by decide) ?_
    show Steps p.tables e below (s₁.setTop (mkF m 5 #[.val (.ref r0), .val (.int p1), .val (.int p2), .val (.long v40_1), .second, .val (.int (2 : Int32))] [])) t
    refine XS.iload X0.here hx rfl (hb hby pre_d5) rfl ?_
    show Steps p.tables e below (s₁.setTop (mkF m 7 #[.val (.ref r0), .val (.int p1), .val (.int p2), .val (.long v40_1), .second, .val (.int (2 : Int32))] [(.int (2 : Int32))])) t
    refine XS.bipush X0.here hx rfl (hb hby pre_d7) ?_
    show Steps p.tables e below (s₁.setTop (mkF m 9 #[.val (.ref r0), .val (.int p1), .val (.int p2), .val (.long v40_1), .second, .val (.int (2 : Int32))] [(.int (8 : Int32)), (.int (2 : Int32))])) t
    refine XS.icmpNo X0.here hx rfl (hb hby pre_d9) rfl (tlt (by decide)).2.1 ?_
    show Steps p.tables e below (s₁.setTop (mkF m 12 #[.val (.ref r0), .val (.int p1), .val (.int p2), .val (.long v40_1), .second, .val (.int (2 : Int32))] [])) t
    refine XS.lloadN X0.here hx rfl (hb hby pre_d12) rfl ?_
    show Steps p.tables e below (s₁.setTop (mkF m 13 #[.val (.ref r0), .val (.int p1), .val (.int p2), .val (.long v40_1), .second, .val (.int (2 : Int32))] [(.long v40_1)])) t
    refine XS.bipush X0.here hx rfl (hb hby pre_d13) ?_
    show Steps p.tables e below (s₁.setTop (mkF m 15 #[.val (.ref r0), .val (.int p1), .val (.int p2), .val (.long v40_1), .second, .val (.int (2 : Int32))] [(.int (8 : Int32)), (.long v40_1)])) t
    refine XS.lshl X0.here hx rfl (hb hby pre_d15) rfl ?_
    show Steps p.tables e below (s₁.setTop (mkF m 16 #[.val (.ref r0), .val (.int p1), .val (.int p2), .val (.long v40_1), .second, .val (.int (2 : Int32))] [(.long (v40_1 <<< ((8 : Int32) &&& 0x3f).toInt64))])) t
    refine XS.iloadN X0.here hx rfl (hb hby pre_d16) rfl ?_
    show Steps p.tables e below (s₁.setTop (mkF m 17 #[.val (.ref r0), .val (.int p1), .val (.int p2), .val (.long v40_1), .second, .val (.int (2 : Int32))] [(.int p1), (.long (v40_1 <<< ((8 : Int32) &&& 0x3f).toInt64))])) t
    refine XS.iload X0.here hx rfl (hb hby pre_d17) rfl ?_
    show Steps p.tables e below (s₁.setTop (mkF m 19 #[.val (.ref r0), .val (.int p1), .val (.int p2), .val (.long v40_1), .second, .val (.int (2 : Int32))] [(.int (2 : Int32)), (.int p1), (.long (v40_1 <<< ((8 : Int32) &&& 0x3f).toInt64))])) t
    refine XS.iadd X0.here hx rfl (hb hby pre_d19) rfl ?_
    show Steps p.tables e below (s₁.setTop (mkF m 20 #[.val (.ref r0), .val (.int p1), .val (.int p2), .val (.long v40_1), .second, .val (.int (2 : Int32))] [(.int (p1 + (2 : Int32))), (.long (v40_1 <<< ((8 : Int32) &&& 0x3f).toInt64))])) t
    refine XS.iloadN X0.here hx rfl (hb hby pre_d20) rfl ?_
    exact kt
  obtain ⟨j38_s0_2, hj38_s0_2, K16⟩ : ∃ (j38_s0_2 : Int32), j38_s0_2 = (if (p1 + (2 : Int32)) < p2 then ((fa ((p1 + (2 : Int32))).toNatClampNeg) &&& (255 : Int32)) else (0 : Int32)) ∧ ∀ t, Steps p.tables e below (s₁.setTop (mkF m 38 #[.val (.ref r0), .val (.int p1), .val (.int p2), .val (.long v40_1), .second, .val (.int (2 : Int32))] [(.int j38_s0_2), (.long (v40_1 <<< ((8 : Int32) &&& 0x3f).toInt64))])) t → P0 t := by
    by_cases hc21_2 : (p1 + (2 : Int32)) < p2
    · have K14 : ∀ t, Steps p.tables e below (s₁.setTop (mkF m 38 #[.val (.ref r0), .val (.int p1), .val (.int p2), .val (.long v40_1), .second, .val (.int (2 : Int32))] [(.int ((fa ((p1 + (2 : Int32))).toNatClampNeg) &&& (255 : Int32))), (.long (v40_1 <<< ((8 : Int32) &&& 0x3f).toInt64))])) t → P0 t := by
        intro t kt
        refine K13 t ?_
        show Steps p.tables e below (s₁.setTop (mkF m 21 #[.val (.ref r0), .val (.int p1), .val (.int p2), .val (.long v40_1), .second, .val (.int (2 : Int32))] [(.int p2), (.int (p1 + (2 : Int32))), (.long (v40_1 <<< ((8 : Int32) &&& 0x3f).toInt64))])) t
        refine XS.icmpNo X0.here hx rfl (hb hby pre_d21) rfl (tlt hc21_2).2.1 ?_
        show Steps p.tables e below (s₁.setTop (mkF m 24 #[.val (.ref r0), .val (.int p1), .val (.int p2), .val (.long v40_1), .second, .val (.int (2 : Int32))] [(.long (v40_1 <<< ((8 : Int32) &&& 0x3f).toInt64))])) t
        refine XS.aloadN X0.here hx rfl (hb hby pre_d24) rfl rfl ?_
        show Steps p.tables e below (s₁.setTop (mkF m 25 #[.val (.ref r0), .val (.int p1), .val (.int p2), .val (.long v40_1), .second, .val (.int (2 : Int32))] [(.ref r0), (.long (v40_1 <<< ((8 : Int32) &&& 0x3f).toInt64))])) t
        refine XS.iloadN X0.here hx rfl (hb hby pre_d25) rfl ?_
        show Steps p.tables e below (s₁.setTop (mkF m 26 #[.val (.ref r0), .val (.int p1), .val (.int p2), .val (.long v40_1), .second, .val (.int (2 : Int32))] [(.int p1), (.ref r0), (.long (v40_1 <<< ((8 : Int32) &&& 0x3f).toInt64))])) t
        refine XS.iload X0.here hx rfl (hb hby pre_d26) rfl ?_
        show Steps p.tables e below (s₁.setTop (mkF m 28 #[.val (.ref r0), .val (.int p1), .val (.int p2), .val (.long v40_1), .second, .val (.int (2 : Int32))] [(.int (2 : Int32)), (.int p1), (.ref r0), (.long (v40_1 <<< ((8 : Int32) &&& 0x3f).toInt64))])) t
        refine XS.iadd X0.here hx rfl (hb hby pre_d28) rfl ?_
        show Steps p.tables e below (s₁.setTop (mkF m 29 #[.val (.ref r0), .val (.int p1), .val (.int p2), .val (.long v40_1), .second, .val (.int (2 : Int32))] [(.int (p1 + (2 : Int32))), (.ref r0), (.long (v40_1 <<< ((8 : Int32) &&& 0x3f).toInt64))])) t
        refine ldBA X0 hx hZ e0 Va (j := (p1 + (2 : Int32))) (hin 2 (by decide)) (g := (mkF m 29 #[.val (.ref r0), .val (.int p1), .val (.int p2), .val (.long v40_1), .second, .val (.int (2 : Int32))] [(.int (p1 + (2 : Int32))), (.ref r0), (.long (v40_1 <<< ((8 : Int32) &&& 0x3f).toInt64))])) rfl rfl (hb hby pre_d29) _ ?_
        show Steps p.tables e below (s₁.setTop (mkF m 30 #[.val (.ref r0), .val (.int p1), .val (.int p2), .val (.long v40_1), .second, .val (.int (2 : Int32))] [(.int (fa ((p1 + (2 : Int32))).toNatClampNeg)), (.long (v40_1 <<< ((8 : Int32) &&& 0x3f).toInt64))])) t
        refine XS.sipush X0.here hx rfl (hb hby pre_d30) ?_
        show Steps p.tables e below (s₁.setTop (mkF m 33 #[.val (.ref r0), .val (.int p1), .val (.int p2), .val (.long v40_1), .second, .val (.int (2 : Int32))] [(.int (255 : Int32)), (.int (fa ((p1 + (2 : Int32))).toNatClampNeg)), (.long (v40_1 <<< ((8 : Int32) &&& 0x3f).toInt64))])) t
        refine XS.iand X0.here hx rfl (hb hby pre_d33) rfl ?_
        show Steps p.tables e below (s₁.setTop (mkF m 34 #[.val (.ref r0), .val (.int p1), .val (.int p2), .val (.long v40_1), .second, .val (.int (2 : Int32))] [(.int ((fa ((p1 + (2 : Int32))).toNatClampNeg) &&& (255 : Int32))), (.long (v40_1 <<< ((8 : Int32) &&& 0x3f).toInt64))])) t
        refine XS.goto X0.here hx rfl (pc0 := 34) (pc' := 38) rfl (hb hby pre_d34) (by decide) (by decide) ?_
        exact kt
      exact ⟨_, (if_pos hc21_2).symm, K14⟩
    · have K15 : ∀ t, Steps p.tables e below (s₁.setTop (mkF m 38 #[.val (.ref r0), .val (.int p1), .val (.int p2), .val (.long v40_1), .second, .val (.int (2 : Int32))] [(.int (0 : Int32)), (.long (v40_1 <<< ((8 : Int32) &&& 0x3f).toInt64))])) t → P0 t := by
        intro t kt
        refine K13 t ?_
        show Steps p.tables e below (s₁.setTop (mkF m 21 #[.val (.ref r0), .val (.int p1), .val (.int p2), .val (.long v40_1), .second, .val (.int (2 : Int32))] [(.int p2), (.int (p1 + (2 : Int32))), (.long (v40_1 <<< ((8 : Int32) &&& 0x3f).toInt64))])) t
        refine XS.icmpYes X0.here hx rfl (pc0 := 21) (pc' := 37) rfl (hb hby pre_d21) rfl (flt hc21_2).2.1 (by decide) (by decide) ?_
        show Steps p.tables e below (s₁.setTop (mkF m 37 #[.val (.ref r0), .val (.int p1), .val (.int p2), .val (.long v40_1), .second, .val (.int (2 : Int32))] [(.long (v40_1 <<< ((8 : Int32) &&& 0x3f).toInt64))])) t
        refine XS.iconst X0.here hx rfl (hb hby pre_d37) ?_
        exact kt
      exact ⟨_, (if_neg hc21_2).symm, K15⟩
  have K17 : ∀ t, Steps p.tables e below (s₁.setTop (mkF m 41 #[.val (.ref r0), .val (.int p1), .val (.int p2), .val (.long ((v40_1 <<< ((8 : Int32) &&& 0x3f).toInt64) ||| (j38_s0_2.toInt64))), .second, .val (.int (2 : Int32))] [])) t → P0 t := by
    intro t kt
    refine K16 t ?_
    show Steps p.tables e below (s₁.setTop (mkF m 38 #[.val (.ref r0), .val (.int p1), .val (.int p2), .val (.long v40_1), .second, .val (.int (2 : Int32))] [(.int j38_s0_2), (.long (v40_1 <<< ((8 : Int32) &&& 0x3f).toInt64))])) t
    refine XS.i2l X0.here hx rfl (hb hby pre_d38) rfl ?_
    show Steps p.tables e below (s₁.setTop (mkF m 39 #[.val (.ref r0), .val (.int p1), .val (.int p2), .val (.long v40_1), .second, .val (.int (2 : Int32))] [(.long (j38_s0_2.toInt64)), (.long (v40_1 <<< ((8 : Int32) &&& 0x3f).toInt64))])) t
    refine XS.lor X0.here hx rfl (hb hby pre_d39) rfl ?_
    show Steps p.tables e below (s₁.setTop (mkF m 40 #[.val (.ref r0), .val (.int p1), .val (.int p2), .val (.long v40_1), .second, .val (.int (2 : Int32))] [(.long ((v40_1 <<< ((8 : Int32) &&& 0x3f).toInt64) ||| (j38_s0_2.toInt64)))])) t
    refine XS.lstoreN X0.here hx rfl (hb hby pre_d40) rfl (l' := #[.val (.ref r0), .val (.int p1), .val (.int p2), .val (.long ((v40_1 <<< ((8 : Int32) &&& 0x3f).toInt64) ||| (j38_s0_2.toInt64))), .second, .val (.int (2 : Int32))]) rfl ?_
    exact kt
  obtain ⟨v40_2, hv40_2, K18⟩ : ∃ v40_2 : Int64, v40_2 = ((v40_1 <<< ((8 : Int32) &&& 0x3f).toInt64) ||| (j38_s0_2.toInt64)) ∧ ∀ t, Steps p.tables e below (s₁.setTop (mkF m 41 #[.val (.ref r0), .val (.int p1), .val (.int p2), .val (.long v40_2), .second, .val (.int (2 : Int32))] [])) t → P0 t := ⟨_, rfl, K17⟩
  have K19 : ∀ t, Steps p.tables e below (s₁.setTop (mkF m 21 #[.val (.ref r0), .val (.int p1), .val (.int p2), .val (.long v40_2), .second, .val (.int (3 : Int32))] [(.int p2), (.int (p1 + (3 : Int32))), (.long (v40_2 <<< ((8 : Int32) &&& 0x3f).toInt64))])) t → P0 t := by
    intro t kt
    refine K18 t ?_
    show Steps p.tables e below (s₁.setTop (mkF m 41 #[.val (.ref r0), .val (.int p1), .val (.int p2), .val (.long v40_2), .second, .val (.int (2 : Int32))] [])) t
    refine XS.iinc X0.here hx rfl (hb hby pre_d41) rfl (l' := #[.val (.ref r0), .val (.int p1), .val (.int p2), .val (.long v40_2), .second, .val (.int (3 : Int32))]) rfl ?_
    show Steps p.tables e below (s₁.setTop (mkF m 44 #[.val (.ref r0), .val (.int p1), .val (.int p2), .val (.long v40_2), .second, .val (.int (3 : Int32))] [])) t
    refine XS.goto X0.here hx rfl (pc0 := 44) (pc' := 5) rfl (hb hby pre_d44) (by decide) (by decide) ?_
    show Steps p.tables e below (s₁.setTop (mkF m 5 #[.val (.ref r0), .val (.int p1), .val (.int p2), .val (.long v40_2), .second, .val (.int (3 : Int32))] [])) t
    refine XS.iload X0.here hx rfl (hb hby pre_d5) rfl ?_
    show Steps p.tables e below (s₁.setTop (mkF m 7 #[.val (.ref r0), .val (.int p1), .val (.int p2), .val (.long v40_2), .second, .val (.int (3 : Int32))] [(.int (3 : Int32))])) t
    refine XS.bipush X0.here hx rfl (hb hby pre_d7) ?_
    show Steps p.tables e below (s₁.setTop (mkF m 9 #[.val (.ref r0), .val (.int p1), .val (.int p2), .val (.long v40_2), .second, .val (.int (3 : Int32))] [(.int (8 : Int32)), (.int (3 : Int32))])) t
    refine XS.icmpNo X0.here hx rfl (hb hby pre_d9) rfl (tlt (by decide)).2.1 ?_
    show Steps p.tables e below (s₁.setTop (mkF m 12 #[.val (.ref r0), .val (.int p1), .val (.int p2), .val (.long v40_2), .second, .val (.int (3 : Int32))] [])) t
    refine XS.lloadN X0.here hx rfl (hb hby pre_d12) rfl ?_
    show Steps p.tables e below (s₁.setTop (mkF m 13 #[.val (.ref r0), .val (.int p1), .val (.int p2), .val (.long v40_2), .second, .val (.int (3 : Int32))] [(.long v40_2)])) t
    refine XS.bipush X0.here hx rfl (hb hby pre_d13) ?_
    show Steps p.tables e below (s₁.setTop (mkF m 15 #[.val (.ref r0), .val (.int p1), .val (.int p2), .val (.long v40_2), .second, .val (.int (3 : Int32))] [(.int (8 : Int32)), (.long v40_2)])) t
    refine XS.lshl X0.here hx rfl (hb hby pre_d15) rfl ?_
    show Steps p.tables e below (s₁.setTop (mkF m 16 #[.val (.ref r0), .val (.int p1), .val (.int p2), .val (.long v40_2), .second, .val (.int (3 : Int32))] [(.long (v40_2 <<< ((8 : Int32) &&& 0x3f).toInt64))])) t
    refine XS.iloadN X0.here hx rfl (hb hby pre_d16) rfl ?_
    show Steps p.tables e below (s₁.setTop (mkF m 17 #[.val (.ref r0), .val (.int p1), .val (.int p2), .val (.long v40_2), .second, .val (.int (3 : Int32))] [(.int p1), (.long (v40_2 <<< ((8 : Int32) &&& 0x3f).toInt64))])) t
    refine XS.iload X0.here hx rfl (hb hby pre_d17) rfl ?_
    show Steps p.tables e below (s₁.setTop (mkF m 19 #[.val (.ref r0), .val (.int p1), .val (.int p2), .val (.long v40_2), .second, .val (.int (3 : Int32))] [(.int (3 : Int32)), (.int p1), (.long (v40_2 <<< ((8 : Int32) &&& 0x3f).toInt64))])) t
    refine XS.iadd X0.here hx rfl (hb hby pre_d19) rfl ?_
    show Steps p.tables e below (s₁.setTop (mkF m 20 #[.val (.ref r0), .val (.int p1), .val (.int p2), .val (.long v40_2), .second, .val (.int (3 : Int32))] [(.int (p1 + (3 : Int32))), (.long (v40_2 <<< ((8 : Int32) &&& 0x3f).toInt64))])) t
    refine XS.iloadN X0.here hx rfl (hb hby pre_d20) rfl ?_
    exact kt
  obtain ⟨j38_s0_3, hj38_s0_3, K22⟩ : ∃ (j38_s0_3 : Int32), j38_s0_3 = (if (p1 + (3 : Int32)) < p2 then ((fa ((p1 + (3 : Int32))).toNatClampNeg) &&& (255 : Int32)) else (0 : Int32)) ∧ ∀ t, Steps p.tables e below (s₁.setTop (mkF m 38 #[.val (.ref r0), .val (.int p1), .val (.int p2), .val (.long v40_2), .second, .val (.int (3 : Int32))] [(.int j38_s0_3), (.long (v40_2 <<< ((8 : Int32) &&& 0x3f).toInt64))])) t → P0 t := by
    by_cases hc21_3 : (p1 + (3 : Int32)) < p2
    · have K20 : ∀ t, Steps p.tables e below (s₁.setTop (mkF m 38 #[.val (.ref r0), .val (.int p1), .val (.int p2), .val (.long v40_2), .second, .val (.int (3 : Int32))] [(.int ((fa ((p1 + (3 : Int32))).toNatClampNeg) &&& (255 : Int32))), (.long (v40_2 <<< ((8 : Int32) &&& 0x3f).toInt64))])) t → P0 t := by
        intro t kt
        refine K19 t ?_
        show Steps p.tables e below (s₁.setTop (mkF m 21 #[.val (.ref r0), .val (.int p1), .val (.int p2), .val (.long v40_2), .second, .val (.int (3 : Int32))] [(.int p2), (.int (p1 + (3 : Int32))), (.long (v40_2 <<< ((8 : Int32) &&& 0x3f).toInt64))])) t
        refine XS.icmpNo X0.here hx rfl (hb hby pre_d21) rfl (tlt hc21_3).2.1 ?_
        show Steps p.tables e below (s₁.setTop (mkF m 24 #[.val (.ref r0), .val (.int p1), .val (.int p2), .val (.long v40_2), .second, .val (.int (3 : Int32))] [(.long (v40_2 <<< ((8 : Int32) &&& 0x3f).toInt64))])) t
        refine XS.aloadN X0.here hx rfl (hb hby pre_d24) rfl rfl ?_
        show Steps p.tables e below (s₁.setTop (mkF m 25 #[.val (.ref r0), .val (.int p1), .val (.int p2), .val (.long v40_2), .second, .val (.int (3 : Int32))] [(.ref r0), (.long (v40_2 <<< ((8 : Int32) &&& 0x3f).toInt64))])) t
        refine XS.iloadN X0.here hx rfl (hb hby pre_d25) rfl ?_
        show Steps p.tables e below (s₁.setTop (mkF m 26 #[.val (.ref r0), .val (.int p1), .val (.int p2), .val (.long v40_2), .second, .val (.int (3 : Int32))] [(.int p1), (.ref r0), (.long (v40_2 <<< ((8 : Int32) &&& 0x3f).toInt64))])) t
        refine XS.iload X0.here hx rfl (hb hby pre_d26) rfl ?_
        show Steps p.tables e below (s₁.setTop (mkF m 28 #[.val (.ref r0), .val (.int p1), .val (.int p2), .val (.long v40_2), .second, .val (.int (3 : Int32))] [(.int (3 : Int32)), (.int p1), (.ref r0), (.long (v40_2 <<< ((8 : Int32) &&& 0x3f).toInt64))])) t
        refine XS.iadd X0.here hx rfl (hb hby pre_d28) rfl ?_
        show Steps p.tables e below (s₁.setTop (mkF m 29 #[.val (.ref r0), .val (.int p1), .val (.int p2), .val (.long v40_2), .second, .val (.int (3 : Int32))] [(.int (p1 + (3 : Int32))), (.ref r0), (.long (v40_2 <<< ((8 : Int32) &&& 0x3f).toInt64))])) t
        refine ldBA X0 hx hZ e0 Va (j := (p1 + (3 : Int32))) (hin 3 (by decide)) (g := (mkF m 29 #[.val (.ref r0), .val (.int p1), .val (.int p2), .val (.long v40_2), .second, .val (.int (3 : Int32))] [(.int (p1 + (3 : Int32))), (.ref r0), (.long (v40_2 <<< ((8 : Int32) &&& 0x3f).toInt64))])) rfl rfl (hb hby pre_d29) _ ?_
        show Steps p.tables e below (s₁.setTop (mkF m 30 #[.val (.ref r0), .val (.int p1), .val (.int p2), .val (.long v40_2), .second, .val (.int (3 : Int32))] [(.int (fa ((p1 + (3 : Int32))).toNatClampNeg)), (.long (v40_2 <<< ((8 : Int32) &&& 0x3f).toInt64))])) t
        refine XS.sipush X0.here hx rfl (hb hby pre_d30) ?_
        show Steps p.tables e below (s₁.setTop (mkF m 33 #[.val (.ref r0), .val (.int p1), .val (.int p2), .val (.long v40_2), .second, .val (.int (3 : Int32))] [(.int (255 : Int32)), (.int (fa ((p1 + (3 : Int32))).toNatClampNeg)), (.long (v40_2 <<< ((8 : Int32) &&& 0x3f).toInt64))])) t
        refine XS.iand X0.here hx rfl (hb hby pre_d33) rfl ?_
        show Steps p.tables e below (s₁.setTop (mkF m 34 #[.val (.ref r0), .val (.int p1), .val (.int p2), .val (.long v40_2), .second, .val (.int (3 : Int32))] [(.int ((fa ((p1 + (3 : Int32))).toNatClampNeg) &&& (255 : Int32))), (.long (v40_2 <<< ((8 : Int32) &&& 0x3f).toInt64))])) t
        refine XS.goto X0.here hx rfl (pc0 := 34) (pc' := 38) rfl (hb hby pre_d34) (by decide) (by decide) ?_
        exact kt
      exact ⟨_, (if_pos hc21_3).symm, K20⟩
    · have K21 : ∀ t, Steps p.tables e below (s₁.setTop (mkF m 38 #[.val (.ref r0), .val (.int p1), .val (.int p2), .val (.long v40_2), .second, .val (.int (3 : Int32))] [(.int (0 : Int32)), (.long (v40_2 <<< ((8 : Int32) &&& 0x3f).toInt64))])) t → P0 t := by
        intro t kt
        refine K19 t ?_
        show Steps p.tables e below (s₁.setTop (mkF m 21 #[.val (.ref r0), .val (.int p1), .val (.int p2), .val (.long v40_2), .second, .val (.int (3 : Int32))] [(.int p2), (.int (p1 + (3 : Int32))), (.long (v40_2 <<< ((8 : Int32) &&& 0x3f).toInt64))])) t
        refine XS.icmpYes X0.here hx rfl (pc0 := 21) (pc' := 37) rfl (hb hby pre_d21) rfl (flt hc21_3).2.1 (by decide) (by decide) ?_
        show Steps p.tables e below (s₁.setTop (mkF m 37 #[.val (.ref r0), .val (.int p1), .val (.int p2), .val (.long v40_2), .second, .val (.int (3 : Int32))] [(.long (v40_2 <<< ((8 : Int32) &&& 0x3f).toInt64))])) t
        refine XS.iconst X0.here hx rfl (hb hby pre_d37) ?_
        exact kt
      exact ⟨_, (if_neg hc21_3).symm, K21⟩
  have K23 : ∀ t, Steps p.tables e below (s₁.setTop (mkF m 41 #[.val (.ref r0), .val (.int p1), .val (.int p2), .val (.long ((v40_2 <<< ((8 : Int32) &&& 0x3f).toInt64) ||| (j38_s0_3.toInt64))), .second, .val (.int (3 : Int32))] [])) t → P0 t := by
    intro t kt
    refine K22 t ?_
    show Steps p.tables e below (s₁.setTop (mkF m 38 #[.val (.ref r0), .val (.int p1), .val (.int p2), .val (.long v40_2), .second, .val (.int (3 : Int32))] [(.int j38_s0_3), (.long (v40_2 <<< ((8 : Int32) &&& 0x3f).toInt64))])) t
    refine XS.i2l X0.here hx rfl (hb hby pre_d38) rfl ?_
    show Steps p.tables e below (s₁.setTop (mkF m 39 #[.val (.ref r0), .val (.int p1), .val (.int p2), .val (.long v40_2), .second, .val (.int (3 : Int32))] [(.long (j38_s0_3.toInt64)), (.long (v40_2 <<< ((8 : Int32) &&& 0x3f).toInt64))])) t
    refine XS.lor X0.here hx rfl (hb hby pre_d39) rfl ?_
    show Steps p.tables e below (s₁.setTop (mkF m 40 #[.val (.ref r0), .val (.int p1), .val (.int p2), .val (.long v40_2), .second, .val (.int (3 : Int32))] [(.long ((v40_2 <<< ((8 : Int32) &&& 0x3f).toInt64) ||| (j38_s0_3.toInt64)))])) t
    refine XS.lstoreN X0.here hx rfl (hb hby pre_d40) rfl (l' := #[.val (.ref r0), .val (.int p1), .val (.int p2), .val (.long ((v40_2 <<< ((8 : Int32) &&& 0x3f).toInt64) ||| (j38_s0_3.toInt64))), .second, .val (.int (3 : Int32))]) rfl ?_
    exact kt
  obtain ⟨v40_3, hv40_3, K24⟩ : ∃ v40_3 : Int64, v40_3 = ((v40_2 <<< ((8 : Int32) &&& 0x3f).toInt64) ||| (j38_s0_3.toInt64)) ∧ ∀ t, Steps p.tables e below (s₁.setTop (mkF m 41 #[.val (.ref r0), .val (.int p1), .val (.int p2), .val (.long v40_3), .second, .val (.int (3 : Int32))] [])) t → P0 t := ⟨_, rfl, K23⟩
  have K25 : ∀ t, Steps p.tables e below (s₁.setTop (mkF m 21 #[.val (.ref r0), .val (.int p1), .val (.int p2), .val (.long v40_3), .second, .val (.int (4 : Int32))] [(.int p2), (.int (p1 + (4 : Int32))), (.long (v40_3 <<< ((8 : Int32) &&& 0x3f).toInt64))])) t → P0 t := by
    intro t kt
    refine K24 t ?_
    show Steps p.tables e below (s₁.setTop (mkF m 41 #[.val (.ref r0), .val (.int p1), .val (.int p2), .val (.long v40_3), .second, .val (.int (3 : Int32))] [])) t
    refine XS.iinc X0.here hx rfl (hb hby pre_d41) rfl (l' := #[.val (.ref r0), .val (.int p1), .val (.int p2), .val (.long v40_3), .second, .val (.int (4 : Int32))]) rfl ?_
    show Steps p.tables e below (s₁.setTop (mkF m 44 #[.val (.ref r0), .val (.int p1), .val (.int p2), .val (.long v40_3), .second, .val (.int (4 : Int32))] [])) t
    refine XS.goto X0.here hx rfl (pc0 := 44) (pc' := 5) rfl (hb hby pre_d44) (by decide) (by decide) ?_
    show Steps p.tables e below (s₁.setTop (mkF m 5 #[.val (.ref r0), .val (.int p1), .val (.int p2), .val (.long v40_3), .second, .val (.int (4 : Int32))] [])) t
    refine XS.iload X0.here hx rfl (hb hby pre_d5) rfl ?_
    show Steps p.tables e below (s₁.setTop (mkF m 7 #[.val (.ref r0), .val (.int p1), .val (.int p2), .val (.long v40_3), .second, .val (.int (4 : Int32))] [(.int (4 : Int32))])) t
    refine XS.bipush X0.here hx rfl (hb hby pre_d7) ?_
    show Steps p.tables e below (s₁.setTop (mkF m 9 #[.val (.ref r0), .val (.int p1), .val (.int p2), .val (.long v40_3), .second, .val (.int (4 : Int32))] [(.int (8 : Int32)), (.int (4 : Int32))])) t
    refine XS.icmpNo X0.here hx rfl (hb hby pre_d9) rfl (tlt (by decide)).2.1 ?_
    show Steps p.tables e below (s₁.setTop (mkF m 12 #[.val (.ref r0), .val (.int p1), .val (.int p2), .val (.long v40_3), .second, .val (.int (4 : Int32))] [])) t
    refine XS.lloadN X0.here hx rfl (hb hby pre_d12) rfl ?_
    show Steps p.tables e below (s₁.setTop (mkF m 13 #[.val (.ref r0), .val (.int p1), .val (.int p2), .val (.long v40_3), .second, .val (.int (4 : Int32))] [(.long v40_3)])) t
    refine XS.bipush X0.here hx rfl (hb hby pre_d13) ?_
    show Steps p.tables e below (s₁.setTop (mkF m 15 #[.val (.ref r0), .val (.int p1), .val (.int p2), .val (.long v40_3), .second, .val (.int (4 : Int32))] [(.int (8 : Int32)), (.long v40_3)])) t
    refine XS.lshl X0.here hx rfl (hb hby pre_d15) rfl ?_
    show Steps p.tables e below (s₁.setTop (mkF m 16 #[.val (.ref r0), .val (.int p1), .val (.int p2), .val (.long v40_3), .second, .val (.int (4 : Int32))] [(.long (v40_3 <<< ((8 : Int32) &&& 0x3f).toInt64))])) t
    refine XS.iloadN X0.here hx rfl (hb hby pre_d16) rfl ?_
    show Steps p.tables e below (s₁.setTop (mkF m 17 #[.val (.ref r0), .val (.int p1), .val (.int p2), .val (.long v40_3), .second, .val (.int (4 : Int32))] [(.int p1), (.long (v40_3 <<< ((8 : Int32) &&& 0x3f).toInt64))])) t
    refine XS.iload X0.here hx rfl (hb hby pre_d17) rfl ?_
    show Steps p.tables e below (s₁.setTop (mkF m 19 #[.val (.ref r0), .val (.int p1), .val (.int p2), .val (.long v40_3), .second, .val (.int (4 : Int32))] [(.int (4 : Int32)), (.int p1), (.long (v40_3 <<< ((8 : Int32) &&& 0x3f).toInt64))])) t
    refine XS.iadd X0.here hx rfl (hb hby pre_d19) rfl ?_
    show Steps p.tables e below (s₁.setTop (mkF m 20 #[.val (.ref r0), .val (.int p1), .val (.int p2), .val (.long v40_3), .second, .val (.int (4 : Int32))] [(.int (p1 + (4 : Int32))), (.long (v40_3 <<< ((8 : Int32) &&& 0x3f).toInt64))])) t
    refine XS.iloadN X0.here hx rfl (hb hby pre_d20) rfl ?_
    exact kt
  obtain ⟨j38_s0_4, hj38_s0_4, K28⟩ : ∃ (j38_s0_4 : Int32), j38_s0_4 = (if (p1 + (4 : Int32)) < p2 then ((fa ((p1 + (4 : Int32))).toNatClampNeg) &&& (255 : Int32)) else (0 : Int32)) ∧ ∀ t, Steps p.tables e below (s₁.setTop (mkF m 38 #[.val (.ref r0), .val (.int p1), .val (.int p2), .val (.long v40_3), .second, .val (.int (4 : Int32))] [(.int j38_s0_4), (.long (v40_3 <<< ((8 : Int32) &&& 0x3f).toInt64))])) t → P0 t := by
    by_cases hc21_4 : (p1 + (4 : Int32)) < p2
    · have K26 : ∀ t, Steps p.tables e below (s₁.setTop (mkF m 38 #[.val (.ref r0), .val (.int p1), .val (.int p2), .val (.long v40_3), .second, .val (.int (4 : Int32))] [(.int ((fa ((p1 + (4 : Int32))).toNatClampNeg) &&& (255 : Int32))), (.long (v40_3 <<< ((8 : Int32) &&& 0x3f).toInt64))])) t → P0 t := by
        intro t kt
        refine K25 t ?_
        show Steps p.tables e below (s₁.setTop (mkF m 21 #[.val (.ref r0), .val (.int p1), .val (.int p2), .val (.long v40_3), .second, .val (.int (4 : Int32))] [(.int p2), (.int (p1 + (4 : Int32))), (.long (v40_3 <<< ((8 : Int32) &&& 0x3f).toInt64))])) t
        refine XS.icmpNo X0.here hx rfl (hb hby pre_d21) rfl (tlt hc21_4).2.1 ?_
        show Steps p.tables e below (s₁.setTop (mkF m 24 #[.val (.ref r0), .val (.int p1), .val (.int p2), .val (.long v40_3), .second, .val (.int (4 : Int32))] [(.long (v40_3 <<< ((8 : Int32) &&& 0x3f).toInt64))])) t
        refine XS.aloadN X0.here hx rfl (hb hby pre_d24) rfl rfl ?_
        show Steps p.tables e below (s₁.setTop (mkF m 25 #[.val (.ref r0), .val (.int p1), .val (.int p2), .val (.long v40_3), .second, .val (.int (4 : Int32))] [(.ref r0), (.long (v40_3 <<< ((8 : Int32) &&& 0x3f).toInt64))])) t
        refine XS.iloadN X0.here hx rfl (hb hby pre_d25) rfl ?_
        show Steps p.tables e below (s₁.setTop (mkF m 26 #[.val (.ref r0), .val (.int p1), .val (.int p2), .val (.long v40_3), .second, .val (.int (4 : Int32))] [(.int p1), (.ref r0), (.long (v40_3 <<< ((8 : Int32) &&& 0x3f).toInt64))])) t
        refine XS.iload X0.here hx rfl (hb hby pre_d26) rfl ?_
        show Steps p.tables e below (s₁.setTop (mkF m 28 #[.val (.ref r0), .val (.int p1), .val (.int p2), .val (.long v40_3), .second, .val (.int (4 : Int32))] [(.int (4 : Int32)), (.int p1), (.ref r0), (.long (v40_3 <<< ((8 : Int32) &&& 0x3f).toInt64))])) t
        refine XS.iadd X0.here hx rfl (hb hby pre_d28) rfl ?_
        show Steps p.tables e below (s₁.setTop (mkF m 29 #[.val (.ref r0), .val (.int p1), .val (.int p2), .val (.long v40_3), .second, .val (.int (4 : Int32))] [(.int (p1 + (4 : Int32))), (.ref r0), (.long (v40_3 <<< ((8 : Int32) &&& 0x3f).toInt64))])) t
        refine ldBA X0 hx hZ e0 Va (j := (p1 + (4 : Int32))) (hin 4 (by decide)) (g := (mkF m 29 #[.val (.ref r0), .val (.int p1), .val (.int p2), .val (.long v40_3), .second, .val (.int (4 : Int32))] [(.int (p1 + (4 : Int32))), (.ref r0), (.long (v40_3 <<< ((8 : Int32) &&& 0x3f).toInt64))])) rfl rfl (hb hby pre_d29) _ ?_
        show Steps p.tables e below (s₁.setTop (mkF m 30 #[.val (.ref r0), .val (.int p1), .val (.int p2), .val (.long v40_3), .second, .val (.int (4 : Int32))] [(.int (fa ((p1 + (4 : Int32))).toNatClampNeg)), (.long (v40_3 <<< ((8 : Int32) &&& 0x3f).toInt64))])) t
        refine XS.sipush X0.here hx rfl (hb hby pre_d30) ?_
        show Steps p.tables e below (s₁.setTop (mkF m 33 #[.val (.ref r0), .val (.int p1), .val (.int p2), .val (.long v40_3), .second, .val (.int (4 : Int32))] [(.int (255 : Int32)), (.int (fa ((p1 + (4 : Int32))).toNatClampNeg)), (.long (v40_3 <<< ((8 : Int32) &&& 0x3f).toInt64))])) t
        refine XS.iand X0.here hx rfl (hb hby pre_d33) rfl ?_
        show Steps p.tables e below (s₁.setTop (mkF m 34 #[.val (.ref r0), .val (.int p1), .val (.int p2), .val (.long v40_3), .second, .val (.int (4 : Int32))] [(.int ((fa ((p1 + (4 : Int32))).toNatClampNeg) &&& (255 : Int32))), (.long (v40_3 <<< ((8 : Int32) &&& 0x3f).toInt64))])) t
        refine XS.goto X0.here hx rfl (pc0 := 34) (pc' := 38) rfl (hb hby pre_d34) (by decide) (by decide) ?_
        exact kt
      exact ⟨_, (if_pos hc21_4).symm, K26⟩
    · have K27 : ∀ t, Steps p.tables e below (s₁.setTop (mkF m 38 #[.val (.ref r0), .val (.int p1), .val (.int p2), .val (.long v40_3), .second, .val (.int (4 : Int32))] [(.int (0 : Int32)), (.long (v40_3 <<< ((8 : Int32) &&& 0x3f).toInt64))])) t → P0 t := by
        intro t kt
        refine K25 t ?_
        show Steps p.tables e below (s₁.setTop (mkF m 21 #[.val (.ref r0), .val (.int p1), .val (.int p2), .val (.long v40_3), .second, .val (.int (4 : Int32))] [(.int p2), (.int (p1 + (4 : Int32))), (.long (v40_3 <<< ((8 : Int32) &&& 0x3f).toInt64))])) t
        refine XS.icmpYes X0.here hx rfl (pc0 := 21) (pc' := 37) rfl (hb hby pre_d21) rfl (flt hc21_4).2.1 (by decide) (by decide) ?_
        show Steps p.tables e below (s₁.setTop (mkF m 37 #[.val (.ref r0), .val (.int p1), .val (.int p2), .val (.long v40_3), .second, .val (.int (4 : Int32))] [(.long (v40_3 <<< ((8 : Int32) &&& 0x3f).toInt64))])) t
        refine XS.iconst X0.here hx rfl (hb hby pre_d37) ?_
        exact kt
      exact ⟨_, (if_neg hc21_4).symm, K27⟩
  have K29 : ∀ t, Steps p.tables e below (s₁.setTop (mkF m 41 #[.val (.ref r0), .val (.int p1), .val (.int p2), .val (.long ((v40_3 <<< ((8 : Int32) &&& 0x3f).toInt64) ||| (j38_s0_4.toInt64))), .second, .val (.int (4 : Int32))] [])) t → P0 t := by
    intro t kt
    refine K28 t ?_
    show Steps p.tables e below (s₁.setTop (mkF m 38 #[.val (.ref r0), .val (.int p1), .val (.int p2), .val (.long v40_3), .second, .val (.int (4 : Int32))] [(.int j38_s0_4), (.long (v40_3 <<< ((8 : Int32) &&& 0x3f).toInt64))])) t
    refine XS.i2l X0.here hx rfl (hb hby pre_d38) rfl ?_
    show Steps p.tables e below (s₁.setTop (mkF m 39 #[.val (.ref r0), .val (.int p1), .val (.int p2), .val (.long v40_3), .second, .val (.int (4 : Int32))] [(.long (j38_s0_4.toInt64)), (.long (v40_3 <<< ((8 : Int32) &&& 0x3f).toInt64))])) t
    refine XS.lor X0.here hx rfl (hb hby pre_d39) rfl ?_
    show Steps p.tables e below (s₁.setTop (mkF m 40 #[.val (.ref r0), .val (.int p1), .val (.int p2), .val (.long v40_3), .second, .val (.int (4 : Int32))] [(.long ((v40_3 <<< ((8 : Int32) &&& 0x3f).toInt64) ||| (j38_s0_4.toInt64)))])) t
    refine XS.lstoreN X0.here hx rfl (hb hby pre_d40) rfl (l' := #[.val (.ref r0), .val (.int p1), .val (.int p2), .val (.long ((v40_3 <<< ((8 : Int32) &&& 0x3f).toInt64) ||| (j38_s0_4.toInt64))), .second, .val (.int (4 : Int32))]) rfl ?_
    exact kt
  obtain ⟨v40_4, hv40_4, K30⟩ : ∃ v40_4 : Int64, v40_4 = ((v40_3 <<< ((8 : Int32) &&& 0x3f).toInt64) ||| (j38_s0_4.toInt64)) ∧ ∀ t, Steps p.tables e below (s₁.setTop (mkF m 41 #[.val (.ref r0), .val (.int p1), .val (.int p2), .val (.long v40_4), .second, .val (.int (4 : Int32))] [])) t → P0 t := ⟨_, rfl, K29⟩
  have K31 : ∀ t, Steps p.tables e below (s₁.setTop (mkF m 21 #[.val (.ref r0), .val (.int p1), .val (.int p2), .val (.long v40_4), .second, .val (.int (5 : Int32))] [(.int p2), (.int (p1 + (5 : Int32))), (.long (v40_4 <<< ((8 : Int32) &&& 0x3f).toInt64))])) t → P0 t := by
    intro t kt
    refine K30 t ?_
    show Steps p.tables e below (s₁.setTop (mkF m 41 #[.val (.ref r0), .val (.int p1), .val (.int p2), .val (.long v40_4), .second, .val (.int (4 : Int32))] [])) t
    refine XS.iinc X0.here hx rfl (hb hby pre_d41) rfl (l' := #[.val (.ref r0), .val (.int p1), .val (.int p2), .val (.long v40_4), .second, .val (.int (5 : Int32))]) rfl ?_
    show Steps p.tables e below (s₁.setTop (mkF m 44 #[.val (.ref r0), .val (.int p1), .val (.int p2), .val (.long v40_4), .second, .val (.int (5 : Int32))] [])) t
    refine XS.goto X0.here hx rfl (pc0 := 44) (pc' := 5) rfl (hb hby pre_d44) (by decide) (by decide) ?_
    show Steps p.tables e below (s₁.setTop (mkF m 5 #[.val (.ref r0), .val (.int p1), .val (.int p2), .val (.long v40_4), .second, .val (.int (5 : Int32))] [])) t
    refine XS.iload X0.here hx rfl (hb hby pre_d5) rfl ?_
    show Steps p.tables e below (s₁.setTop (mkF m 7 #[.val (.ref r0), .val (.int p1), .val (.int p2), .val (.long v40_4), .second, .val (.int (5 : Int32))] [(.int (5 : Int32))])) t
    refine XS.bipush X0.here hx rfl (hb hby pre_d7) ?_
    show Steps p.tables e below (s₁.setTop (mkF m 9 #[.val (.ref r0), .val (.int p1), .val (.int p2), .val (.long v40_4), .second, .val (.int (5 : Int32))] [(.int (8 : Int32)), (.int (5 : Int32))])) t
    refine XS.icmpNo X0.here hx rfl (hb hby pre_d9) rfl (tlt (by decide)).2.1 ?_
    show Steps p.tables e below (s₁.setTop (mkF m 12 #[.val (.ref r0), .val (.int p1), .val (.int p2), .val (.long v40_4), .second, .val (.int (5 : Int32))] [])) t
    refine XS.lloadN X0.here hx rfl (hb hby pre_d12) rfl ?_
    show Steps p.tables e below (s₁.setTop (mkF m 13 #[.val (.ref r0), .val (.int p1), .val (.int p2), .val (.long v40_4), .second, .val (.int (5 : Int32))] [(.long v40_4)])) t
    refine XS.bipush X0.here hx rfl (hb hby pre_d13) ?_
    show Steps p.tables e below (s₁.setTop (mkF m 15 #[.val (.ref r0), .val (.int p1), .val (.int p2), .val (.long v40_4), .second, .val (.int (5 : Int32))] [(.int (8 : Int32)), (.long v40_4)])) t
    refine XS.lshl X0.here hx rfl (hb hby pre_d15) rfl ?_
    show Steps p.tables e below (s₁.setTop (mkF m 16 #[.val (.ref r0), .val (.int p1), .val (.int p2), .val (.long v40_4), .second, .val (.int (5 : Int32))] [(.long (v40_4 <<< ((8 : Int32) &&& 0x3f).toInt64))])) t
    refine XS.iloadN X0.here hx rfl (hb hby pre_d16) rfl ?_
    show Steps p.tables e below (s₁.setTop (mkF m 17 #[.val (.ref r0), .val (.int p1), .val (.int p2), .val (.long v40_4), .second, .val (.int (5 : Int32))] [(.int p1), (.long (v40_4 <<< ((8 : Int32) &&& 0x3f).toInt64))])) t
    refine XS.iload X0.here hx rfl (hb hby pre_d17) rfl ?_
    show Steps p.tables e below (s₁.setTop (mkF m 19 #[.val (.ref r0), .val (.int p1), .val (.int p2), .val (.long v40_4), .second, .val (.int (5 : Int32))] [(.int (5 : Int32)), (.int p1), (.long (v40_4 <<< ((8 : Int32) &&& 0x3f).toInt64))])) t
    refine XS.iadd X0.here hx rfl (hb hby pre_d19) rfl ?_
    show Steps p.tables e below (s₁.setTop (mkF m 20 #[.val (.ref r0), .val (.int p1), .val (.int p2), .val (.long v40_4), .second, .val (.int (5 : Int32))] [(.int (p1 + (5 : Int32))), (.long (v40_4 <<< ((8 : Int32) &&& 0x3f).toInt64))])) t
    refine XS.iloadN X0.here hx rfl (hb hby pre_d20) rfl ?_
    exact kt
  obtain ⟨j38_s0_5, hj38_s0_5, K34⟩ : ∃ (j38_s0_5 : Int32), j38_s0_5 = (if (p1 + (5 : Int32)) < p2 then ((fa ((p1 + (5 : Int32))).toNatClampNeg) &&& (255 : Int32)) else (0 : Int32)) ∧ ∀ t, Steps p.tables e below (s₁.setTop (mkF m 38 #[.val (.ref r0), .val (.int p1), .val (.int p2), .val (.long v40_4), .second, .val (.int (5 : Int32))] [(.int j38_s0_5), (.long (v40_4 <<< ((8 : Int32) &&& 0x3f).toInt64))])) t → P0 t := by
    by_cases hc21_5 : (p1 + (5 : Int32)) < p2
    · have K32 : ∀ t, Steps p.tables e below (s₁.setTop (mkF m 38 #[.val (.ref r0), .val (.int p1), .val (.int p2), .val (.long v40_4), .second, .val (.int (5 : Int32))] [(.int ((fa ((p1 + (5 : Int32))).toNatClampNeg) &&& (255 : Int32))), (.long (v40_4 <<< ((8 : Int32) &&& 0x3f).toInt64))])) t → P0 t := by
        intro t kt
        refine K31 t ?_
        show Steps p.tables e below (s₁.setTop (mkF m 21 #[.val (.ref r0), .val (.int p1), .val (.int p2), .val (.long v40_4), .second, .val (.int (5 : Int32))] [(.int p2), (.int (p1 + (5 : Int32))), (.long (v40_4 <<< ((8 : Int32) &&& 0x3f).toInt64))])) t
        refine XS.icmpNo X0.here hx rfl (hb hby pre_d21) rfl (tlt hc21_5).2.1 ?_
        show Steps p.tables e below (s₁.setTop (mkF m 24 #[.val (.ref r0), .val (.int p1), .val (.int p2), .val (.long v40_4), .second, .val (.int (5 : Int32))] [(.long (v40_4 <<< ((8 : Int32) &&& 0x3f).toInt64))])) t
        refine XS.aloadN X0.here hx rfl (hb hby pre_d24) rfl rfl ?_
        show Steps p.tables e below (s₁.setTop (mkF m 25 #[.val (.ref r0), .val (.int p1), .val (.int p2), .val (.long v40_4), .second, .val (.int (5 : Int32))] [(.ref r0), (.long (v40_4 <<< ((8 : Int32) &&& 0x3f).toInt64))])) t
        refine XS.iloadN X0.here hx rfl (hb hby pre_d25) rfl ?_
        show Steps p.tables e below (s₁.setTop (mkF m 26 #[.val (.ref r0), .val (.int p1), .val (.int p2), .val (.long v40_4), .second, .val (.int (5 : Int32))] [(.int p1), (.ref r0), (.long (v40_4 <<< ((8 : Int32) &&& 0x3f).toInt64))])) t
        refine XS.iload X0.here hx rfl (hb hby pre_d26) rfl ?_
        show Steps p.tables e below (s₁.setTop (mkF m 28 #[.val (.ref r0), .val (.int p1), .val (.int p2), .val (.long v40_4), .second, .val (.int (5 : Int32))] [(.int (5 : Int32)), (.int p1), (.ref r0), (.long (v40_4 <<< ((8 : Int32) &&& 0x3f).toInt64))])) t
        refine XS.iadd X0.here hx rfl (hb hby pre_d28) rfl ?_
        show Steps p.tables e below (s₁.setTop (mkF m 29 #[.val (.ref r0), .val (.int p1), .val (.int p2), .val (.long v40_4), .second, .val (.int (5 : Int32))] [(.int (p1 + (5 : Int32))), (.ref r0), (.long (v40_4 <<< ((8 : Int32) &&& 0x3f).toInt64))])) t
        refine ldBA X0 hx hZ e0 Va (j := (p1 + (5 : Int32))) (hin 5 (by decide)) (g := (mkF m 29 #[.val (.ref r0), .val (.int p1), .val (.int p2), .val (.long v40_4), .second, .val (.int (5 : Int32))] [(.int (p1 + (5 : Int32))), (.ref r0), (.long (v40_4 <<< ((8 : Int32) &&& 0x3f).toInt64))])) rfl rfl (hb hby pre_d29) _ ?_
        show Steps p.tables e below (s₁.setTop (mkF m 30 #[.val (.ref r0), .val (.int p1), .val (.int p2), .val (.long v40_4), .second, .val (.int (5 : Int32))] [(.int (fa ((p1 + (5 : Int32))).toNatClampNeg)), (.long (v40_4 <<< ((8 : Int32) &&& 0x3f).toInt64))])) t
        refine XS.sipush X0.here hx rfl (hb hby pre_d30) ?_
        show Steps p.tables e below (s₁.setTop (mkF m 33 #[.val (.ref r0), .val (.int p1), .val (.int p2), .val (.long v40_4), .second, .val (.int (5 : Int32))] [(.int (255 : Int32)), (.int (fa ((p1 + (5 : Int32))).toNatClampNeg)), (.long (v40_4 <<< ((8 : Int32) &&& 0x3f).toInt64))])) t
        refine XS.iand X0.here hx rfl (hb hby pre_d33) rfl ?_
        show Steps p.tables e below (s₁.setTop (mkF m 34 #[.val (.ref r0), .val (.int p1), .val (.int p2), .val (.long v40_4), .second, .val (.int (5 : Int32))] [(.int ((fa ((p1 + (5 : Int32))).toNatClampNeg) &&& (255 : Int32))), (.long (v40_4 <<< ((8 : Int32) &&& 0x3f).toInt64))])) t
        refine XS.goto X0.here hx rfl (pc0 := 34) (pc' := 38) rfl (hb hby pre_d34) (by decide) (by decide) ?_
        exact kt
      exact ⟨_, (if_pos hc21_5).symm, K32⟩
    · have K33 : ∀ t, Steps p.tables e below (s₁.setTop (mkF m 38 #[.val (.ref r0), .val (.int p1), .val (.int p2), .val (.long v40_4), .second, .val (.int (5 : Int32))] [(.int (0 : Int32)), (.long (v40_4 <<< ((8 : Int32) &&& 0x3f).toInt64))])) t → P0 t := by
        intro t kt
        refine K31 t ?_
        show Steps p.tables e below (s₁.setTop (mkF m 21 #[.val (.ref r0), .val (.int p1), .val (.int p2), .val (.long v40_4), .second, .val (.int (5 : Int32))] [(.int p2), (.int (p1 + (5 : Int32))), (.long (v40_4 <<< ((8 : Int32) &&& 0x3f).toInt64))])) t
        refine XS.icmpYes X0.here hx rfl (pc0 := 21) (pc' := 37) rfl (hb hby pre_d21) rfl (flt hc21_5).2.1 (by decide) (by decide) ?_
        show Steps p.tables e below (s₁.setTop (mkF m 37 #[.val (.ref r0), .val (.int p1), .val (.int p2), .val (.long v40_4), .second, .val (.int (5 : Int32))] [(.long (v40_4 <<< ((8 : Int32) &&& 0x3f).toInt64))])) t
        refine XS.iconst X0.here hx rfl (hb hby pre_d37) ?_
        exact kt
      exact ⟨_, (if_neg hc21_5).symm, K33⟩
  have K35 : ∀ t, Steps p.tables e below (s₁.setTop (mkF m 41 #[.val (.ref r0), .val (.int p1), .val (.int p2), .val (.long ((v40_4 <<< ((8 : Int32) &&& 0x3f).toInt64) ||| (j38_s0_5.toInt64))), .second, .val (.int (5 : Int32))] [])) t → P0 t := by
    intro t kt
    refine K34 t ?_
    show Steps p.tables e below (s₁.setTop (mkF m 38 #[.val (.ref r0), .val (.int p1), .val (.int p2), .val (.long v40_4), .second, .val (.int (5 : Int32))] [(.int j38_s0_5), (.long (v40_4 <<< ((8 : Int32) &&& 0x3f).toInt64))])) t
    refine XS.i2l X0.here hx rfl (hb hby pre_d38) rfl ?_
    show Steps p.tables e below (s₁.setTop (mkF m 39 #[.val (.ref r0), .val (.int p1), .val (.int p2), .val (.long v40_4), .second, .val (.int (5 : Int32))] [(.long (j38_s0_5.toInt64)), (.long (v40_4 <<< ((8 : Int32) &&& 0x3f).toInt64))])) t
    refine XS.lor X0.here hx rfl (hb hby pre_d39) rfl ?_
    show Steps p.tables e below (s₁.setTop (mkF m 40 #[.val (.ref r0), .val (.int p1), .val (.int p2), .val (.long v40_4), .second, .val (.int (5 : Int32))] [(.long ((v40_4 <<< ((8 : Int32) &&& 0x3f).toInt64) ||| (j38_s0_5.toInt64)))])) t
    refine XS.lstoreN X0.here hx rfl (hb hby pre_d40) rfl (l' := #[.val (.ref r0), .val (.int p1), .val (.int p2), .val (.long ((v40_4 <<< ((8 : Int32) &&& 0x3f).toInt64) ||| (j38_s0_5.toInt64))), .second, .val (.int (5 : Int32))]) rfl ?_
    exact kt
  obtain ⟨v40_5, hv40_5, K36⟩ : ∃ v40_5 : Int64, v40_5 = ((v40_4 <<< ((8 : Int32) &&& 0x3f).toInt64) ||| (j38_s0_5.toInt64)) ∧ ∀ t, Steps p.tables e below (s₁.setTop (mkF m 41 #[.val (.ref r0), .val (.int p1), .val (.int p2), .val (.long v40_5), .second, .val (.int (5 : Int32))] [])) t → P0 t := ⟨_, rfl, K35⟩
  have K37 : ∀ t, Steps p.tables e below (s₁.setTop (mkF m 21 #[.val (.ref r0), .val (.int p1), .val (.int p2), .val (.long v40_5), .second, .val (.int (6 : Int32))] [(.int p2), (.int (p1 + (6 : Int32))), (.long (v40_5 <<< ((8 : Int32) &&& 0x3f).toInt64))])) t → P0 t := by
    intro t kt
    refine K36 t ?_
    show Steps p.tables e below (s₁.setTop (mkF m 41 #[.val (.ref r0), .val (.int p1), .val (.int p2), .val (.long v40_5), .second, .val (.int (5 : Int32))] [])) t
    refine XS.iinc X0.here hx rfl (hb hby pre_d41) rfl (l' := #[.val (.ref r0), .val (.int p1), .val (.int p2), .val (.long v40_5), .second, .val (.int (6 : Int32))]) rfl ?_
    show Steps p.tables e below (s₁.setTop (mkF m 44 #[.val (.ref r0), .val (.int p1), .val (.int p2), .val (.long v40_5), .second, .val (.int (6 : Int32))] [])) t
    refine XS.goto X0.here hx rfl (pc0 := 44) (pc' := 5) rfl (hb hby pre_d44) (by decide) (by decide) ?_
    show Steps p.tables e below (s₁.setTop (mkF m 5 #[.val (.ref r0), .val (.int p1), .val (.int p2), .val (.long v40_5), .second, .val (.int (6 : Int32))] [])) t
    refine XS.iload X0.here hx rfl (hb hby pre_d5) rfl ?_
    show Steps p.tables e below (s₁.setTop (mkF m 7 #[.val (.ref r0), .val (.int p1), .val (.int p2), .val (.long v40_5), .second, .val (.int (6 : Int32))] [(.int (6 : Int32))])) t
    refine XS.bipush X0.here hx rfl (hb hby pre_d7) ?_
    show Steps p.tables e below (s₁.setTop (mkF m 9 #[.val (.ref r0), .val (.int p1), .val (.int p2), .val (.long v40_5), .second, .val (.int (6 : Int32))] [(.int (8 : Int32)), (.int (6 : Int32))])) t
    refine XS.icmpNo X0.here hx rfl (hb hby pre_d9) rfl (tlt (by decide)).2.1 ?_
    show Steps p.tables e below (s₁.setTop (mkF m 12 #[.val (.ref r0), .val (.int p1), .val (.int p2), .val (.long v40_5), .second, .val (.int (6 : Int32))] [])) t
    refine XS.lloadN X0.here hx rfl (hb hby pre_d12) rfl ?_
    show Steps p.tables e below (s₁.setTop (mkF m 13 #[.val (.ref r0), .val (.int p1), .val (.int p2), .val (.long v40_5), .second, .val (.int (6 : Int32))] [(.long v40_5)])) t
    refine XS.bipush X0.here hx rfl (hb hby pre_d13) ?_
    show Steps p.tables e below (s₁.setTop (mkF m 15 #[.val (.ref r0), .val (.int p1), .val (.int p2), .val (.long v40_5), .second, .val (.int (6 : Int32))] [(.int (8 : Int32)), (.long v40_5)])) t
    refine XS.lshl X0.here hx rfl (hb hby pre_d15) rfl ?_
    show Steps p.tables e below (s₁.setTop (mkF m 16 #[.val (.ref r0), .val (.int p1), .val (.int p2), .val (.long v40_5), .second, .val (.int (6 : Int32))] [(.long (v40_5 <<< ((8 : Int32) &&& 0x3f).toInt64))])) t
    refine XS.iloadN X0.here hx rfl (hb hby pre_d16) rfl ?_
    show Steps p.tables e below (s₁.setTop (mkF m 17 #[.val (.ref r0), .val (.int p1), .val (.int p2), .val (.long v40_5), .second, .val (.int (6 : Int32))] [(.int p1), (.long (v40_5 <<< ((8 : Int32) &&& 0x3f).toInt64))])) t
    refine XS.iload X0.here hx rfl (hb hby pre_d17) rfl ?_
    show Steps p.tables e below (s₁.setTop (mkF m 19 #[.val (.ref r0), .val (.int p1), .val (.int p2), .val (.long v40_5), .second, .val (.int (6 : Int32))] [(.int (6 : Int32)), (.int p1), (.long (v40_5 <<< ((8 : Int32) &&& 0x3f).toInt64))])) t
    refine XS.iadd X0.here hx rfl (hb hby pre_d19) rfl ?_
    show Steps p.tables e below (s₁.setTop (mkF m 20 #[.val (.ref r0), .val (.int p1), .val (.int p2), .val (.long v40_5), .second, .val (.int (6 : Int32))] [(.int (p1 + (6 : Int32))), (.long (v40_5 <<< ((8 : Int32) &&& 0x3f).toInt64))])) t
    refine XS.iloadN X0.here hx rfl (hb hby pre_d20) rfl ?_
    exact kt
  obtain ⟨j38_s0_6, hj38_s0_6, K40⟩ : ∃ (j38_s0_6 : Int32), j38_s0_6 = (if (p1 + (6 : Int32)) < p2 then ((fa ((p1 + (6 : Int32))).toNatClampNeg) &&& (255 : Int32)) else (0 : Int32)) ∧ ∀ t, Steps p.tables e below (s₁.setTop (mkF m 38 #[.val (.ref r0), .val (.int p1), .val (.int p2), .val (.long v40_5), .second, .val (.int (6 : Int32))] [(.int j38_s0_6), (.long (v40_5 <<< ((8 : Int32) &&& 0x3f).toInt64))])) t → P0 t := by
    by_cases hc21_6 : (p1 + (6 : Int32)) < p2
    · have K38 : ∀ t, Steps p.tables e below (s₁.setTop (mkF m 38 #[.val (.ref r0), .val (.int p1), .val (.int p2), .val (.long v40_5), .second, .val (.int (6 : Int32))] [(.int ((fa ((p1 + (6 : Int32))).toNatClampNeg) &&& (255 : Int32))), (.long (v40_5 <<< ((8 : Int32) &&& 0x3f).toInt64))])) t → P0 t := by
        intro t kt
        refine K37 t ?_
        show Steps p.tables e below (s₁.setTop (mkF m 21 #[.val (.ref r0), .val (.int p1), .val (.int p2), .val (.long v40_5), .second, .val (.int (6 : Int32))] [(.int p2), (.int (p1 + (6 : Int32))), (.long (v40_5 <<< ((8 : Int32) &&& 0x3f).toInt64))])) t
        refine XS.icmpNo X0.here hx rfl (hb hby pre_d21) rfl (tlt hc21_6).2.1 ?_
        show Steps p.tables e below (s₁.setTop (mkF m 24 #[.val (.ref r0), .val (.int p1), .val (.int p2), .val (.long v40_5), .second, .val (.int (6 : Int32))] [(.long (v40_5 <<< ((8 : Int32) &&& 0x3f).toInt64))])) t
        refine XS.aloadN X0.here hx rfl (hb hby pre_d24) rfl rfl ?_
        show Steps p.tables e below (s₁.setTop (mkF m 25 #[.val (.ref r0), .val (.int p1), .val (.int p2), .val (.long v40_5), .second, .val (.int (6 : Int32))] [(.ref r0), (.long (v40_5 <<< ((8 : Int32) &&& 0x3f).toInt64))])) t
        refine XS.iloadN X0.here hx rfl (hb hby pre_d25) rfl ?_
        show Steps p.tables e below (s₁.setTop (mkF m 26 #[.val (.ref r0), .val (.int p1), .val (.int p2), .val (.long v40_5), .second, .val (.int (6 : Int32))] [(.int p1), (.ref r0), (.long (v40_5 <<< ((8 : Int32) &&& 0x3f).toInt64))])) t
        refine XS.iload X0.here hx rfl (hb hby pre_d26) rfl ?_
        show Steps p.tables e below (s₁.setTop (mkF m 28 #[.val (.ref r0), .val (.int p1), .val (.int p2), .val (.long v40_5), .second, .val (.int (6 : Int32))] [(.int (6 : Int32)), (.int p1), (.ref r0), (.long (v40_5 <<< ((8 : Int32) &&& 0x3f).toInt64))])) t
        refine XS.iadd X0.here hx rfl (hb hby pre_d28) rfl ?_
        show Steps p.tables e below (s₁.setTop (mkF m 29 #[.val (.ref r0), .val (.int p1), .val (.int p2), .val (.long v40_5), .second, .val (.int (6 : Int32))] [(.int (p1 + (6 : Int32))), (.ref r0), (.long (v40_5 <<< ((8 : Int32) &&& 0x3f).toInt64))])) t
        refine ldBA X0 hx hZ e0 Va (j := (p1 + (6 : Int32))) (hin 6 (by decide)) (g := (mkF m 29 #[.val (.ref r0), .val (.int p1), .val (.int p2), .val (.long v40_5), .second, .val (.int (6 : Int32))] [(.int (p1 + (6 : Int32))), (.ref r0), (.long (v40_5 <<< ((8 : Int32) &&& 0x3f).toInt64))])) rfl rfl (hb hby pre_d29) _ ?_
        show Steps p.tables e below (s₁.setTop (mkF m 30 #[.val (.ref r0), .val (.int p1), .val (.int p2), .val (.long v40_5), .second, .val (.int (6 : Int32))] [(.int (fa ((p1 + (6 : Int32))).toNatClampNeg)), (.long (v40_5 <<< ((8 : Int32) &&& 0x3f).toInt64))])) t
        refine XS.sipush X0.here hx rfl (hb hby pre_d30) ?_
        show Steps p.tables e below (s₁.setTop (mkF m 33 #[.val (.ref r0), .val (.int p1), .val (.int p2), .val (.long v40_5), .second, .val (.int (6 : Int32))] [(.int (255 : Int32)), (.int (fa ((p1 + (6 : Int32))).toNatClampNeg)), (.long (v40_5 <<< ((8 : Int32) &&& 0x3f).toInt64))])) t
        refine XS.iand X0.here hx rfl (hb hby pre_d33) rfl ?_
        show Steps p.tables e below (s₁.setTop (mkF m 34 #[.val (.ref r0), .val (.int p1), .val (.int p2), .val (.long v40_5), .second, .val (.int (6 : Int32))] [(.int ((fa ((p1 + (6 : Int32))).toNatClampNeg) &&& (255 : Int32))), (.long (v40_5 <<< ((8 : Int32) &&& 0x3f).toInt64))])) t
        refine XS.goto X0.here hx rfl (pc0 := 34) (pc' := 38) rfl (hb hby pre_d34) (by decide) (by decide) ?_
        exact kt
      exact ⟨_, (if_pos hc21_6).symm, K38⟩
    · have K39 : ∀ t, Steps p.tables e below (s₁.setTop (mkF m 38 #[.val (.ref r0), .val (.int p1), .val (.int p2), .val (.long v40_5), .second, .val (.int (6 : Int32))] [(.int (0 : Int32)), (.long (v40_5 <<< ((8 : Int32) &&& 0x3f).toInt64))])) t → P0 t := by
        intro t kt
        refine K37 t ?_
        show Steps p.tables e below (s₁.setTop (mkF m 21 #[.val (.ref r0), .val (.int p1), .val (.int p2), .val (.long v40_5), .second, .val (.int (6 : Int32))] [(.int p2), (.int (p1 + (6 : Int32))), (.long (v40_5 <<< ((8 : Int32) &&& 0x3f).toInt64))])) t
        refine XS.icmpYes X0.here hx rfl (pc0 := 21) (pc' := 37) rfl (hb hby pre_d21) rfl (flt hc21_6).2.1 (by decide) (by decide) ?_
        show Steps p.tables e below (s₁.setTop (mkF m 37 #[.val (.ref r0), .val (.int p1), .val (.int p2), .val (.long v40_5), .second, .val (.int (6 : Int32))] [(.long (v40_5 <<< ((8 : Int32) &&& 0x3f).toInt64))])) t
        refine XS.iconst X0.here hx rfl (hb hby pre_d37) ?_
        exact kt
      exact ⟨_, (if_neg hc21_6).symm, K39⟩
  have K41 : ∀ t, Steps p.tables e below (s₁.setTop (mkF m 41 #[.val (.ref r0), .val (.int p1), .val (.int p2), .val (.long ((v40_5 <<< ((8 : Int32) &&& 0x3f).toInt64) ||| (j38_s0_6.toInt64))), .second, .val (.int (6 : Int32))] [])) t → P0 t := by
    intro t kt
    refine K40 t ?_
    show Steps p.tables e below (s₁.setTop (mkF m 38 #[.val (.ref r0), .val (.int p1), .val (.int p2), .val (.long v40_5), .second, .val (.int (6 : Int32))] [(.int j38_s0_6), (.long (v40_5 <<< ((8 : Int32) &&& 0x3f).toInt64))])) t
    refine XS.i2l X0.here hx rfl (hb hby pre_d38) rfl ?_
    show Steps p.tables e below (s₁.setTop (mkF m 39 #[.val (.ref r0), .val (.int p1), .val (.int p2), .val (.long v40_5), .second, .val (.int (6 : Int32))] [(.long (j38_s0_6.toInt64)), (.long (v40_5 <<< ((8 : Int32) &&& 0x3f).toInt64))])) t
    refine XS.lor X0.here hx rfl (hb hby pre_d39) rfl ?_
    show Steps p.tables e below (s₁.setTop (mkF m 40 #[.val (.ref r0), .val (.int p1), .val (.int p2), .val (.long v40_5), .second, .val (.int (6 : Int32))] [(.long ((v40_5 <<< ((8 : Int32) &&& 0x3f).toInt64) ||| (j38_s0_6.toInt64)))])) t
    refine XS.lstoreN X0.here hx rfl (hb hby pre_d40) rfl (l' := #[.val (.ref r0), .val (.int p1), .val (.int p2), .val (.long ((v40_5 <<< ((8 : Int32) &&& 0x3f).toInt64) ||| (j38_s0_6.toInt64))), .second, .val (.int (6 : Int32))]) rfl ?_
    exact kt
  obtain ⟨v40_6, hv40_6, K42⟩ : ∃ v40_6 : Int64, v40_6 = ((v40_5 <<< ((8 : Int32) &&& 0x3f).toInt64) ||| (j38_s0_6.toInt64)) ∧ ∀ t, Steps p.tables e below (s₁.setTop (mkF m 41 #[.val (.ref r0), .val (.int p1), .val (.int p2), .val (.long v40_6), .second, .val (.int (6 : Int32))] [])) t → P0 t := ⟨_, rfl, K41⟩
  have K43 : ∀ t, Steps p.tables e below (s₁.setTop (mkF m 21 #[.val (.ref r0), .val (.int p1), .val (.int p2), .val (.long v40_6), .second, .val (.int (7 : Int32))] [(.int p2), (.int (p1 + (7 : Int32))), (.long (v40_6 <<< ((8 : Int32) &&& 0x3f).toInt64))])) t → P0 t := by
    intro t kt
    refine K42 t ?_
    show Steps p.tables e below (s₁.setTop (mkF m 41 #[.val (.ref r0), .val (.int p1), .val (.int p2), .val (.long v40_6), .second, .val (.int (6 : Int32))] [])) t
    refine XS.iinc X0.here hx rfl (hb hby pre_d41) rfl (l' := #[.val (.ref r0), .val (.int p1), .val (.int p2), .val (.long v40_6), .second, .val (.int (7 : Int32))]) rfl ?_
    show Steps p.tables e below (s₁.setTop (mkF m 44 #[.val (.ref r0), .val (.int p1), .val (.int p2), .val (.long v40_6), .second, .val (.int (7 : Int32))] [])) t
    refine XS.goto X0.here hx rfl (pc0 := 44) (pc' := 5) rfl (hb hby pre_d44) (by decide) (by decide) ?_
    show Steps p.tables e below (s₁.setTop (mkF m 5 #[.val (.ref r0), .val (.int p1), .val (.int p2), .val (.long v40_6), .second, .val (.int (7 : Int32))] [])) t
    refine XS.iload X0.here hx rfl (hb hby pre_d5) rfl ?_
    show Steps p.tables e below (s₁.setTop (mkF m 7 #[.val (.ref r0), .val (.int p1), .val (.int p2), .val (.long v40_6), .second, .val (.int (7 : Int32))] [(.int (7 : Int32))])) t
    refine XS.bipush X0.here hx rfl (hb hby pre_d7) ?_
    show Steps p.tables e below (s₁.setTop (mkF m 9 #[.val (.ref r0), .val (.int p1), .val (.int p2), .val (.long v40_6), .second, .val (.int (7 : Int32))] [(.int (8 : Int32)), (.int (7 : Int32))])) t
    refine XS.icmpNo X0.here hx rfl (hb hby pre_d9) rfl (tlt (by decide)).2.1 ?_
    show Steps p.tables e below (s₁.setTop (mkF m 12 #[.val (.ref r0), .val (.int p1), .val (.int p2), .val (.long v40_6), .second, .val (.int (7 : Int32))] [])) t
    refine XS.lloadN X0.here hx rfl (hb hby pre_d12) rfl ?_
    show Steps p.tables e below (s₁.setTop (mkF m 13 #[.val (.ref r0), .val (.int p1), .val (.int p2), .val (.long v40_6), .second, .val (.int (7 : Int32))] [(.long v40_6)])) t
    refine XS.bipush X0.here hx rfl (hb hby pre_d13) ?_
    show Steps p.tables e below (s₁.setTop (mkF m 15 #[.val (.ref r0), .val (.int p1), .val (.int p2), .val (.long v40_6), .second, .val (.int (7 : Int32))] [(.int (8 : Int32)), (.long v40_6)])) t
    refine XS.lshl X0.here hx rfl (hb hby pre_d15) rfl ?_
    show Steps p.tables e below (s₁.setTop (mkF m 16 #[.val (.ref r0), .val (.int p1), .val (.int p2), .val (.long v40_6), .second, .val (.int (7 : Int32))] [(.long (v40_6 <<< ((8 : Int32) &&& 0x3f).toInt64))])) t
    refine XS.iloadN X0.here hx rfl (hb hby pre_d16) rfl ?_
    show Steps p.tables e below (s₁.setTop (mkF m 17 #[.val (.ref r0), .val (.int p1), .val (.int p2), .val (.long v40_6), .second, .val (.int (7 : Int32))] [(.int p1), (.long (v40_6 <<< ((8 : Int32) &&& 0x3f).toInt64))])) t
    refine XS.iload X0.here hx rfl (hb hby pre_d17) rfl ?_
    show Steps p.tables e below (s₁.setTop (mkF m 19 #[.val (.ref r0), .val (.int p1), .val (.int p2), .val (.long v40_6), .second, .val (.int (7 : Int32))] [(.int (7 : Int32)), (.int p1), (.long (v40_6 <<< ((8 : Int32) &&& 0x3f).toInt64))])) t
    refine XS.iadd X0.here hx rfl (hb hby pre_d19) rfl ?_
    show Steps p.tables e below (s₁.setTop (mkF m 20 #[.val (.ref r0), .val (.int p1), .val (.int p2), .val (.long v40_6), .second, .val (.int (7 : Int32))] [(.int (p1 + (7 : Int32))), (.long (v40_6 <<< ((8 : Int32) &&& 0x3f).toInt64))])) t
    refine XS.iloadN X0.here hx rfl (hb hby pre_d20) rfl ?_
    exact kt
  obtain ⟨j38_s0_7, hj38_s0_7, K46⟩ : ∃ (j38_s0_7 : Int32), j38_s0_7 = (if (p1 + (7 : Int32)) < p2 then ((fa ((p1 + (7 : Int32))).toNatClampNeg) &&& (255 : Int32)) else (0 : Int32)) ∧ ∀ t, Steps p.tables e below (s₁.setTop (mkF m 38 #[.val (.ref r0), .val (.int p1), .val (.int p2), .val (.long v40_6), .second, .val (.int (7 : Int32))] [(.int j38_s0_7), (.long (v40_6 <<< ((8 : Int32) &&& 0x3f).toInt64))])) t → P0 t := by
    by_cases hc21_7 : (p1 + (7 : Int32)) < p2
    · have K44 : ∀ t, Steps p.tables e below (s₁.setTop (mkF m 38 #[.val (.ref r0), .val (.int p1), .val (.int p2), .val (.long v40_6), .second, .val (.int (7 : Int32))] [(.int ((fa ((p1 + (7 : Int32))).toNatClampNeg) &&& (255 : Int32))), (.long (v40_6 <<< ((8 : Int32) &&& 0x3f).toInt64))])) t → P0 t := by
        intro t kt
        refine K43 t ?_
        show Steps p.tables e below (s₁.setTop (mkF m 21 #[.val (.ref r0), .val (.int p1), .val (.int p2), .val (.long v40_6), .second, .val (.int (7 : Int32))] [(.int p2), (.int (p1 + (7 : Int32))), (.long (v40_6 <<< ((8 : Int32) &&& 0x3f).toInt64))])) t
        refine XS.icmpNo X0.here hx rfl (hb hby pre_d21) rfl (tlt hc21_7).2.1 ?_
        show Steps p.tables e below (s₁.setTop (mkF m 24 #[.val (.ref r0), .val (.int p1), .val (.int p2), .val (.long v40_6), .second, .val (.int (7 : Int32))] [(.long (v40_6 <<< ((8 : Int32) &&& 0x3f).toInt64))])) t
        refine XS.aloadN X0.here hx rfl (hb hby pre_d24) rfl rfl ?_
        show Steps p.tables e below (s₁.setTop (mkF m 25 #[.val (.ref r0), .val (.int p1), .val (.int p2), .val (.long v40_6), .second, .val (.int (7 : Int32))] [(.ref r0), (.long (v40_6 <<< ((8 : Int32) &&& 0x3f).toInt64))])) t
        refine XS.iloadN X0.here hx rfl (hb hby pre_d25) rfl ?_
        show Steps p.tables e below (s₁.setTop (mkF m 26 #[.val (.ref r0), .val (.int p1), .val (.int p2), .val (.long v40_6), .second, .val (.int (7 : Int32))] [(.int p1), (.ref r0), (.long (v40_6 <<< ((8 : Int32) &&& 0x3f).toInt64))])) t
        refine XS.iload X0.here hx rfl (hb hby pre_d26) rfl ?_
        show Steps p.tables e below (s₁.setTop (mkF m 28 #[.val (.ref r0), .val (.int p1), .val (.int p2), .val (.long v40_6), .second, .val (.int (7 : Int32))] [(.int (7 : Int32)), (.int p1), (.ref r0), (.long (v40_6 <<< ((8 : Int32) &&& 0x3f).toInt64))])) t
        refine XS.iadd X0.here hx rfl (hb hby pre_d28) rfl ?_
        show Steps p.tables e below (s₁.setTop (mkF m 29 #[.val (.ref r0), .val (.int p1), .val (.int p2), .val (.long v40_6), .second, .val (.int (7 : Int32))] [(.int (p1 + (7 : Int32))), (.ref r0), (.long (v40_6 <<< ((8 : Int32) &&& 0x3f).toInt64))])) t
        refine ldBA X0 hx hZ e0 Va (j := (p1 + (7 : Int32))) (hin 7 (by decide)) (g := (mkF m 29 #[.val (.ref r0), .val (.int p1), .val (.int p2), .val (.long v40_6), .second, .val (.int (7 : Int32))] [(.int (p1 + (7 : Int32))), (.ref r0), (.long (v40_6 <<< ((8 : Int32) &&& 0x3f).toInt64))])) rfl rfl (hb hby pre_d29) _ ?_
        show Steps p.tables e below (s₁.setTop (mkF m 30 #[.val (.ref r0), .val (.int p1), .val (.int p2), .val (.long v40_6), .second, .val (.int (7 : Int32))] [(.int (fa ((p1 + (7 : Int32))).toNatClampNeg)), (.long (v40_6 <<< ((8 : Int32) &&& 0x3f).toInt64))])) t
        refine XS.sipush X0.here hx rfl (hb hby pre_d30) ?_
        show Steps p.tables e below (s₁.setTop (mkF m 33 #[.val (.ref r0), .val (.int p1), .val (.int p2), .val (.long v40_6), .second, .val (.int (7 : Int32))] [(.int (255 : Int32)), (.int (fa ((p1 + (7 : Int32))).toNatClampNeg)), (.long (v40_6 <<< ((8 : Int32) &&& 0x3f).toInt64))])) t
        refine XS.iand X0.here hx rfl (hb hby pre_d33) rfl ?_
        show Steps p.tables e below (s₁.setTop (mkF m 34 #[.val (.ref r0), .val (.int p1), .val (.int p2), .val (.long v40_6), .second, .val (.int (7 : Int32))] [(.int ((fa ((p1 + (7 : Int32))).toNatClampNeg) &&& (255 : Int32))), (.long (v40_6 <<< ((8 : Int32) &&& 0x3f).toInt64))])) t
        refine XS.goto X0.here hx rfl (pc0 := 34) (pc' := 38) rfl (hb hby pre_d34) (by decide) (by decide) ?_
        exact kt
      exact ⟨_, (if_pos hc21_7).symm, K44⟩
    · have K45 : ∀ t, Steps p.tables e below (s₁.setTop (mkF m 38 #[.val (.ref r0), .val (.int p1), .val (.int p2), .val (.long v40_6), .second, .val (.int (7 : Int32))] [(.int (0 : Int32)), (.long (v40_6 <<< ((8 : Int32) &&& 0x3f).toInt64))])) t → P0 t := by
        intro t kt
        refine K43 t ?_
        show Steps p.tables e below (s₁.setTop (mkF m 21 #[.val (.ref r0), .val (.int p1), .val (.int p2), .val (.long v40_6), .second, .val (.int (7 : Int32))] [(.int p2), (.int (p1 + (7 : Int32))), (.long (v40_6 <<< ((8 : Int32) &&& 0x3f).toInt64))])) t
        refine XS.icmpYes X0.here hx rfl (pc0 := 21) (pc' := 37) rfl (hb hby pre_d21) rfl (flt hc21_7).2.1 (by decide) (by decide) ?_
        show Steps p.tables e below (s₁.setTop (mkF m 37 #[.val (.ref r0), .val (.int p1), .val (.int p2), .val (.long v40_6), .second, .val (.int (7 : Int32))] [(.long (v40_6 <<< ((8 : Int32) &&& 0x3f).toInt64))])) t
        refine XS.iconst X0.here hx rfl (hb hby pre_d37) ?_
        exact kt
      exact ⟨_, (if_neg hc21_7).symm, K45⟩
  have K47 : ∀ t, Steps p.tables e below (s₁.setTop (mkF m 41 #[.val (.ref r0), .val (.int p1), .val (.int p2), .val (.long ((v40_6 <<< ((8 : Int32) &&& 0x3f).toInt64) ||| (j38_s0_7.toInt64))), .second, .val (.int (7 : Int32))] [])) t → P0 t := by
    intro t kt
    refine K46 t ?_
    show Steps p.tables e below (s₁.setTop (mkF m 38 #[.val (.ref r0), .val (.int p1), .val (.int p2), .val (.long v40_6), .second, .val (.int (7 : Int32))] [(.int j38_s0_7), (.long (v40_6 <<< ((8 : Int32) &&& 0x3f).toInt64))])) t
    refine XS.i2l X0.here hx rfl (hb hby pre_d38) rfl ?_
    show Steps p.tables e below (s₁.setTop (mkF m 39 #[.val (.ref r0), .val (.int p1), .val (.int p2), .val (.long v40_6), .second, .val (.int (7 : Int32))] [(.long (j38_s0_7.toInt64)), (.long (v40_6 <<< ((8 : Int32) &&& 0x3f).toInt64))])) t
    refine XS.lor X0.here hx rfl (hb hby pre_d39) rfl ?_
    show Steps p.tables e below (s₁.setTop (mkF m 40 #[.val (.ref r0), .val (.int p1), .val (.int p2), .val (.long v40_6), .second, .val (.int (7 : Int32))] [(.long ((v40_6 <<< ((8 : Int32) &&& 0x3f).toInt64) ||| (j38_s0_7.toInt64)))])) t
    refine XS.lstoreN X0.here hx rfl (hb hby pre_d40) rfl (l' := #[.val (.ref r0), .val (.int p1), .val (.int p2), .val (.long ((v40_6 <<< ((8 : Int32) &&& 0x3f).toInt64) ||| (j38_s0_7.toInt64))), .second, .val (.int (7 : Int32))]) rfl ?_
    exact kt
  obtain ⟨v40_7, hv40_7, K48⟩ : ∃ v40_7 : Int64, v40_7 = ((v40_6 <<< ((8 : Int32) &&& 0x3f).toInt64) ||| (j38_s0_7.toInt64)) ∧ ∀ t, Steps p.tables e below (s₁.setTop (mkF m 41 #[.val (.ref r0), .val (.int p1), .val (.int p2), .val (.long v40_7), .second, .val (.int (7 : Int32))] [])) t → P0 t := ⟨_, rfl, K47⟩
  have K49 : ∀ t, Steps p.tables e below (s₁.setTop (mkF m 48 #[.val (.ref r0), .val (.int p1), .val (.int p2), .val (.long v40_7), .second, .val (.int (8 : Int32))] [(.long v40_7)])) t → P0 t := by
    intro t kt
    refine K48 t ?_
    show Steps p.tables e below (s₁.setTop (mkF m 41 #[.val (.ref r0), .val (.int p1), .val (.int p2), .val (.long v40_7), .second, .val (.int (7 : Int32))] [])) t
    refine XS.iinc X0.here hx rfl (hb hby pre_d41) rfl (l' := #[.val (.ref r0), .val (.int p1), .val (.int p2), .val (.long v40_7), .second, .val (.int (8 : Int32))]) rfl ?_
    show Steps p.tables e below (s₁.setTop (mkF m 44 #[.val (.ref r0), .val (.int p1), .val (.int p2), .val (.long v40_7), .second, .val (.int (8 : Int32))] [])) t
    refine XS.goto X0.here hx rfl (pc0 := 44) (pc' := 5) rfl (hb hby pre_d44) (by decide) (by decide) ?_
    show Steps p.tables e below (s₁.setTop (mkF m 5 #[.val (.ref r0), .val (.int p1), .val (.int p2), .val (.long v40_7), .second, .val (.int (8 : Int32))] [])) t
    refine XS.iload X0.here hx rfl (hb hby pre_d5) rfl ?_
    show Steps p.tables e below (s₁.setTop (mkF m 7 #[.val (.ref r0), .val (.int p1), .val (.int p2), .val (.long v40_7), .second, .val (.int (8 : Int32))] [(.int (8 : Int32))])) t
    refine XS.bipush X0.here hx rfl (hb hby pre_d7) ?_
    show Steps p.tables e below (s₁.setTop (mkF m 9 #[.val (.ref r0), .val (.int p1), .val (.int p2), .val (.long v40_7), .second, .val (.int (8 : Int32))] [(.int (8 : Int32)), (.int (8 : Int32))])) t
    refine XS.icmpYes X0.here hx rfl (pc0 := 9) (pc' := 47) rfl (hb hby pre_d9) rfl (flt (by decide)).2.1 (by decide) (by decide) ?_
    show Steps p.tables e below (s₁.setTop (mkF m 47 #[.val (.ref r0), .val (.int p1), .val (.int p2), .val (.long v40_7), .second, .val (.int (8 : Int32))] [])) t
    refine XS.lloadN X0.here hx rfl (hb hby pre_d47) rfl ?_
    exact kt
  obtain ⟨fs, hr, hrun, hended, hW, hsame⟩ := X0.leave (v := some (.long v40_7)) (fun h => by rw [Bd.returns] at h; cases h)
  refine ⟨_, _, ?_, hrun, hended, _, _, rfl, ?_, ⟨_, rfl⟩, hW, hsame.mono (by decide) (by decide)⟩
  · skip
    have q := K49 _ (retOut X0 hx Bd.returns rfl (Or.inr (Or.inl ⟨rfl, rfl, _, rfl⟩)) (hb hby pre_d48) hr)
    rw [hP0] at q; exact q
  · show QP (.long (fPre p1 p2 fa)) h0 n0 _ s₁.heap _
    rw [e0]
    subst hj38_s0
    subst hv40
    subst hj38_s0_1
    subst hv40_1
    subst hj38_s0_2
    subst hv40_2
    subst hj38_s0_3
    subst hv40_3
    subst hj38_s0_4
    subst hv40_4
    subst hj38_s0_5
    subst hv40_5
    subst hj38_s0_6
    subst hv40_6
    subst hj38_s0_7
    subst hv40_7
    exact ⟨rfl, N0, rfl⟩
set_option maxHeartbeats 4000000 in
theorem own_plain (q0 : Int64) (q1 : Int64) (p2 : Int32) (p3 : Int32) (p4 : Int32) (v8 : Int32) (f12 : Nat → Int32) (f25 : Nat → Int32) (f35 : Nat → Int32) (f45 : Nat → Int32) (f55 : Nat → Int32) (f65 : Nat → Int32) (f75 : Nat → Int32) (f86 : Nat → Int32) (f94 : Nat → Int32) (f109 : Nat → Int32) (f124 : Nat → Int32) (f139 : Nat → Int32) (f154 : Nat → Int32) (f169 : Nat → Int32) (f184 : Nat → Int32) (f199 : Nat → Int32) (f211 : Nat → Int32) (f222 : Nat → Int32) (f235 : Nat → Int32) (f248 : Nat → Int32) (f261 : Nat → Int32) (f274 : Nat → Int32) (f287 : Nat → Int32) (f301 : Nat → Int32) (f312 : Nat → Int32) (j335_s0 : Int32) (v344 : Int64) (j393_12_1 : Int64) (j413_s0 : Int32)
    (hv8 : v8 = ((p2 &&& (2147483647 : Int32)) % (9 : Int32)))
    (hf12 : f12 = (fun _ => (0 : Int32)))
    (hf25 : f25 = (upd f12 ((0 : Int32)).toNatClampNeg (nar .byte ((((q1.toUInt64 >>> ((56 : Int32) &&& 0x3f).toInt64.toUInt64).toInt64).toInt32).toInt8.toInt32))))
    (hf35 : f35 = (upd f25 ((1 : Int32)).toNatClampNeg (nar .byte ((((q1.toUInt64 >>> ((48 : Int32) &&& 0x3f).toInt64.toUInt64).toInt64).toInt32).toInt8.toInt32))))
    (hf45 : f45 = (upd f35 ((2 : Int32)).toNatClampNeg (nar .byte ((((q1.toUInt64 >>> ((40 : Int32) &&& 0x3f).toInt64.toUInt64).toInt64).toInt32).toInt8.toInt32))))
    (hf55 : f55 = (upd f45 ((3 : Int32)).toNatClampNeg (nar .byte ((((q1.toUInt64 >>> ((32 : Int32) &&& 0x3f).toInt64.toUInt64).toInt64).toInt32).toInt8.toInt32))))
    (hf65 : f65 = (upd f55 ((4 : Int32)).toNatClampNeg (nar .byte ((((q1.toUInt64 >>> ((24 : Int32) &&& 0x3f).toInt64.toUInt64).toInt64).toInt32).toInt8.toInt32))))
    (hf75 : f75 = (upd f65 ((5 : Int32)).toNatClampNeg (nar .byte ((((q1.toUInt64 >>> ((16 : Int32) &&& 0x3f).toInt64.toUInt64).toInt64).toInt32).toInt8.toInt32))))
    (hf86 : f86 = (upd f75 ((6 : Int32)).toNatClampNeg (nar .byte ((((q1.toUInt64 >>> ((8 : Int32) &&& 0x3f).toInt64.toUInt64).toInt64).toInt32).toInt8.toInt32))))
    (hf94 : f94 = (upd f86 ((7 : Int32)).toNatClampNeg (nar .byte ((q1.toInt32).toInt8.toInt32))))
    (hf109 : f109 = (upd f94 ((8 : Int32)).toNatClampNeg (nar .byte (((((q1.toUInt64 >>> ((56 : Int32) &&& 0x3f).toInt64.toUInt64).toInt64) ^^^ (-1 : Int64)).toInt32).toInt8.toInt32))))
    (hf124 : f124 = (upd f109 ((9 : Int32)).toNatClampNeg (nar .byte (((((q1.toUInt64 >>> ((48 : Int32) &&& 0x3f).toInt64.toUInt64).toInt64) ^^^ (-1 : Int64)).toInt32).toInt8.toInt32))))
    (hf139 : f139 = (upd f124 ((10 : Int32)).toNatClampNeg (nar .byte (((((q1.toUInt64 >>> ((40 : Int32) &&& 0x3f).toInt64.toUInt64).toInt64) ^^^ (-1 : Int64)).toInt32).toInt8.toInt32))))
    (hf154 : f154 = (upd f139 ((11 : Int32)).toNatClampNeg (nar .byte (((((q1.toUInt64 >>> ((32 : Int32) &&& 0x3f).toInt64.toUInt64).toInt64) ^^^ (-1 : Int64)).toInt32).toInt8.toInt32))))
    (hf169 : f169 = (upd f154 ((12 : Int32)).toNatClampNeg (nar .byte (((((q1.toUInt64 >>> ((24 : Int32) &&& 0x3f).toInt64.toUInt64).toInt64) ^^^ (-1 : Int64)).toInt32).toInt8.toInt32))))
    (hf184 : f184 = (upd f169 ((13 : Int32)).toNatClampNeg (nar .byte (((((q1.toUInt64 >>> ((16 : Int32) &&& 0x3f).toInt64.toUInt64).toInt64) ^^^ (-1 : Int64)).toInt32).toInt8.toInt32))))
    (hf199 : f199 = (upd f184 ((14 : Int32)).toNatClampNeg (nar .byte (((((q1.toUInt64 >>> ((8 : Int32) &&& 0x3f).toInt64.toUInt64).toInt64) ^^^ (-1 : Int64)).toInt32).toInt8.toInt32))))
    (hf211 : f211 = (upd f199 ((15 : Int32)).toNatClampNeg (nar .byte (((q1 ^^^ (-1 : Int64)).toInt32).toInt8.toInt32))))
    (hf222 : f222 = (upd f211 (v8).toNatClampNeg (nar .byte ((((q0.toUInt64 >>> ((56 : Int32) &&& 0x3f).toInt64.toUInt64).toInt64).toInt32).toInt8.toInt32))))
    (hf235 : f235 = (upd f222 ((v8 + (1 : Int32))).toNatClampNeg (nar .byte ((((q0.toUInt64 >>> ((48 : Int32) &&& 0x3f).toInt64.toUInt64).toInt64).toInt32).toInt8.toInt32))))
    (hf248 : f248 = (upd f235 ((v8 + (2 : Int32))).toNatClampNeg (nar .byte ((((q0.toUInt64 >>> ((40 : Int32) &&& 0x3f).toInt64.toUInt64).toInt64).toInt32).toInt8.toInt32))))
    (hf261 : f261 = (upd f248 ((v8 + (3 : Int32))).toNatClampNeg (nar .byte ((((q0.toUInt64 >>> ((32 : Int32) &&& 0x3f).toInt64.toUInt64).toInt64).toInt32).toInt8.toInt32))))
    (hf274 : f274 = (upd f261 ((v8 + (4 : Int32))).toNatClampNeg (nar .byte ((((q0.toUInt64 >>> ((24 : Int32) &&& 0x3f).toInt64.toUInt64).toInt64).toInt32).toInt8.toInt32))))
    (hf287 : f287 = (upd f274 ((v8 + (5 : Int32))).toNatClampNeg (nar .byte ((((q0.toUInt64 >>> ((16 : Int32) &&& 0x3f).toInt64.toUInt64).toInt64).toInt32).toInt8.toInt32))))
    (hf301 : f301 = (upd f287 ((v8 + (6 : Int32))).toNatClampNeg (nar .byte ((((q0.toUInt64 >>> ((8 : Int32) &&& 0x3f).toInt64.toUInt64).toInt64).toInt32).toInt8.toInt32))))
    (hf312 : f312 = (upd f301 ((v8 + (7 : Int32))).toNatClampNeg (nar .byte ((q0.toInt32).toInt8.toInt32))))
    (hj335_s0 : j335_s0 = (if (p4 &&& (1 : Int32)) = (0 : Int32) then ((v8 + (p3 &&& (15 : Int32))) - (4 : Int32)) else p3))
    (hv344 : v344 = ((j335_s0.toInt64) - (v8.toInt64)))
    (hj393_12_1 : j393_12_1 = (if (0 : Int64) < v344 then (if v344 < (8 : Int64) then (q0 &&& ((-1 : Int64) <<< ((((64 : Int64) - ((8 : Int64) * v344)).toInt32) &&& 0x3f).toInt64)) else q0) else (0 : Int64)))
    (hj413_s0 : j413_s0 = (if (fPre v8 j335_s0 f312) = j393_12_1 then (1 : Int32) else (0 : Int32))) :
    j413_s0 = 1 := by
  have hA := own_from hv8
  obtain ⟨n, hn⟩ : ∃ n : Int, n = j335_s0.toInt - v8.toInt := ⟨_, rfl⟩
  have hto := rng32 j335_s0
  have hv : v344.toInt = n := by
    have a := c_lsub j335_s0.toInt64 v8.toInt64
    have r := rng64 (j335_s0.toInt64 - v8.toInt64)
    rw [Int32.toInt_toInt64, Int32.toInt_toInt64] at a
    rw [hv344]; omega
  have i0 : (v8 + (0 : Int32)).toNatClampNeg = v8.toNatClampNeg + 0 := own_idx hA 0 (by decide)
  have i1 : (v8 + (1 : Int32)).toNatClampNeg = v8.toNatClampNeg + 1 := own_idx hA 1 (by decide)
  have i2 : (v8 + (2 : Int32)).toNatClampNeg = v8.toNatClampNeg + 2 := own_idx hA 2 (by decide)
  have i3 : (v8 + (3 : Int32)).toNatClampNeg = v8.toNatClampNeg + 3 := own_idx hA 3 (by decide)
  have i4 : (v8 + (4 : Int32)).toNatClampNeg = v8.toNatClampNeg + 4 := own_idx hA 4 (by decide)
  have i5 : (v8 + (5 : Int32)).toNatClampNeg = v8.toNatClampNeg + 5 := own_idx hA 5 (by decide)
  have i6 : (v8 + (6 : Int32)).toNatClampNeg = v8.toNatClampNeg + 6 := own_idx hA 6 (by decide)
  have i7 : (v8 + (7 : Int32)).toNatClampNeg = v8.toNatClampNeg + 7 := own_idx hA 7 (by decide)
  have p0 : (v8 + (0 : Int32)).toInt = v8.toInt + 0 := own_plus hA 0 (by decide)
  have p1 : (v8 + (1 : Int32)).toInt = v8.toInt + 1 := own_plus hA 1 (by decide)
  have p2' : (v8 + (2 : Int32)).toInt = v8.toInt + 2 := own_plus hA 2 (by decide)
  have p3' : (v8 + (3 : Int32)).toInt = v8.toInt + 3 := own_plus hA 3 (by decide)
  have p4' : (v8 + (4 : Int32)).toInt = v8.toInt + 4 := own_plus hA 4 (by decide)
  have p5 : (v8 + (5 : Int32)).toInt = v8.toInt + 5 := own_plus hA 5 (by decide)
  have p6 : (v8 + (6 : Int32)).toInt = v8.toInt + 6 := own_plus hA 6 (by decide)
  have p7 : (v8 + (7 : Int32)).toInt = v8.toInt + 7 := own_plus hA 7 (by decide)
  rw [i1] at hf235; rw [i2] at hf248; rw [i3] at hf261; rw [i4] at hf274; rw [i5] at hf287; rw [i6] at hf301; rw [i7] at hf312
  clear hf12 hf25 hf35 hf45 hf55 hf65 hf75 hf86 hf94 hf109 hf124 hf139 hf154 hf169 hf184 hf199 hf211
  have y0 : f312 (v8.toNatClampNeg + 0) = nar .byte ((((q0.toUInt64 >>> ((56 : Int32) &&& 0x3f).toInt64.toUInt64).toInt64).toInt32).toInt8.toInt32) := by rw [hf312, hf301, hf287, hf274, hf261, hf248, hf235, hf222]; simp only [upd]; simp
  have y1 : f312 (v8.toNatClampNeg + 1) = nar .byte ((((q0.toUInt64 >>> ((48 : Int32) &&& 0x3f).toInt64.toUInt64).toInt64).toInt32).toInt8.toInt32) := by rw [hf312, hf301, hf287, hf274, hf261, hf248, hf235]; simp only [upd]; simp
  have y2 : f312 (v8.toNatClampNeg + 2) = nar .byte ((((q0.toUInt64 >>> ((40 : Int32) &&& 0x3f).toInt64.toUInt64).toInt64).toInt32).toInt8.toInt32) := by rw [hf312, hf301, hf287, hf274, hf261, hf248]; simp only [upd]; simp
  have y3 : f312 (v8.toNatClampNeg + 3) = nar .byte ((((q0.toUInt64 >>> ((32 : Int32) &&& 0x3f).toInt64.toUInt64).toInt64).toInt32).toInt8.toInt32) := by rw [hf312, hf301, hf287, hf274, hf261]; simp only [upd]; simp
  have y4 : f312 (v8.toNatClampNeg + 4) = nar .byte ((((q0.toUInt64 >>> ((24 : Int32) &&& 0x3f).toInt64.toUInt64).toInt64).toInt32).toInt8.toInt32) := by rw [hf312, hf301, hf287, hf274]; simp only [upd]; simp
  have y5 : f312 (v8.toNatClampNeg + 5) = nar .byte ((((q0.toUInt64 >>> ((16 : Int32) &&& 0x3f).toInt64.toUInt64).toInt64).toInt32).toInt8.toInt32) := by rw [hf312, hf301, hf287]; simp only [upd]; simp
  have y6 : f312 (v8.toNatClampNeg + 6) = nar .byte ((((q0.toUInt64 >>> ((8 : Int32) &&& 0x3f).toInt64.toUInt64).toInt64).toInt32).toInt8.toInt32) := by rw [hf312, hf301]; simp only [upd]; simp
  have y7 : f312 (v8.toNatClampNeg + 7) = nar .byte ((q0.toInt32).toInt8.toInt32) := by rw [hf312]; simp only [upd]; simp
  have z0 := own_byte q0 56 56 (by decide) (by decide)
  have z1 := own_byte q0 48 48 (by decide) (by decide)
  have z2 := own_byte q0 40 40 (by decide) (by decide)
  have z3 := own_byte q0 32 32 (by decide) (by decide)
  have z4 := own_byte q0 24 24 (by decide) (by decide)
  have z5 := own_byte q0 16 16 (by decide) (by decide)
  have z6 := own_byte q0 8 8 (by decide) (by decide)
  have z7 := own_byte0 q0
  rw [← y0] at z0; rw [← y1] at z1; rw [← y2] at z2; rw [← y3] at z3; rw [← y4] at z4; rw [← y5] at z5; rw [← y6] at z6; rw [← y7] at z7
  rw [← i0] at z0; rw [← i1] at z1; rw [← i2] at z2; rw [← i3] at z3; rw [← i4] at z4; rw [← i5] at z5; rw [← i6] at z6; rw [← i7] at z7
  clear y0 y1 y2 y3 y4 y5 y6 y7 hf222 hf235 hf248 hf261 hf274 hf287 hf301 hf312 i0 i1 i2 i3 i4 i5 i6 i7
  have fp : ∃ x0 x1 x2 x3 x4 x5 x6 x7 : Int32, ∃ w0 w1 w2 w3 w4 w5 w6 w7 : Int64, fPre v8 j335_s0 f312 = w7 ∧
      x0.toInt = (if 0 < n then (U q0 / 72057594037927936) % 256 else 0) ∧ x1.toInt = (if 1 < n then (U q0 / 281474976710656) % 256 else 0) ∧
      x2.toInt = (if 2 < n then (U q0 / 1099511627776) % 256 else 0) ∧ x3.toInt = (if 3 < n then (U q0 / 4294967296) % 256 else 0) ∧
      x4.toInt = (if 4 < n then (U q0 / 16777216) % 256 else 0) ∧ x5.toInt = (if 5 < n then (U q0 / 65536) % 256 else 0) ∧
      x6.toInt = (if 6 < n then (U q0 / 256) % 256 else 0) ∧ x7.toInt = (if 7 < n then (U q0) % 256 else 0) ∧
      w0 = (((0 : Int64) <<< ((8 : Int32) &&& 0x3f).toInt64) ||| x0.toInt64) ∧ w1 = ((w0 <<< ((8 : Int32) &&& 0x3f).toInt64) ||| x1.toInt64) ∧
      w2 = ((w1 <<< ((8 : Int32) &&& 0x3f).toInt64) ||| x2.toInt64) ∧ w3 = ((w2 <<< ((8 : Int32) &&& 0x3f).toInt64) ||| x3.toInt64) ∧
      w4 = ((w3 <<< ((8 : Int32) &&& 0x3f).toInt64) ||| x4.toInt64) ∧ w5 = ((w4 <<< ((8 : Int32) &&& 0x3f).toInt64) ||| x5.toInt64) ∧
      w6 = ((w5 <<< ((8 : Int32) &&& 0x3f).toInt64) ||| x6.toInt64) ∧ w7 = ((w6 <<< ((8 : Int32) &&& 0x3f).toInt64) ||| x7.toInt64) := by
    have ez : (0 : Int32).toInt = 0 := by decide
    refine ⟨_, _, _, _, _, _, _, _, _, _, _, _, _, _, _, _, rfl, ?_, ?_, ?_, ?_, ?_, ?_, ?_, ?_, rfl, rfl, rfl, rfl, rfl, rfl, rfl, rfl⟩
    · by_cases c : (v8 + (0 : Int32)) < j335_s0
      · rw [if_pos c, z0, if_pos (by rw [Int32.lt_iff_toInt_lt] at c; omega)]; rfl
      · rw [if_neg c, if_neg (by rw [Int32.lt_iff_toInt_lt] at c; omega)]; exact ez
    · by_cases c : (v8 + (1 : Int32)) < j335_s0
      · rw [if_pos c, z1, if_pos (by rw [Int32.lt_iff_toInt_lt] at c; omega)]; rfl
      · rw [if_neg c, if_neg (by rw [Int32.lt_iff_toInt_lt] at c; omega)]; exact ez
    · by_cases c : (v8 + (2 : Int32)) < j335_s0
      · rw [if_pos c, z2, if_pos (by rw [Int32.lt_iff_toInt_lt] at c; omega)]; rfl
      · rw [if_neg c, if_neg (by rw [Int32.lt_iff_toInt_lt] at c; omega)]; exact ez
    · by_cases c : (v8 + (3 : Int32)) < j335_s0
      · rw [if_pos c, z3, if_pos (by rw [Int32.lt_iff_toInt_lt] at c; omega)]; rfl
      · rw [if_neg c, if_neg (by rw [Int32.lt_iff_toInt_lt] at c; omega)]; exact ez
    · by_cases c : (v8 + (4 : Int32)) < j335_s0
      · rw [if_pos c, z4, if_pos (by rw [Int32.lt_iff_toInt_lt] at c; omega)]; rfl
      · rw [if_neg c, if_neg (by rw [Int32.lt_iff_toInt_lt] at c; omega)]; exact ez
    · by_cases c : (v8 + (5 : Int32)) < j335_s0
      · rw [if_pos c, z5, if_pos (by rw [Int32.lt_iff_toInt_lt] at c; omega)]; rfl
      · rw [if_neg c, if_neg (by rw [Int32.lt_iff_toInt_lt] at c; omega)]; exact ez
    · by_cases c : (v8 + (6 : Int32)) < j335_s0
      · rw [if_pos c, z6, if_pos (by rw [Int32.lt_iff_toInt_lt] at c; omega)]; rfl
      · rw [if_neg c, if_neg (by rw [Int32.lt_iff_toInt_lt] at c; omega)]; exact ez
    · by_cases c : (v8 + (7 : Int32)) < j335_s0
      · rw [if_pos c, z7, if_pos (by rw [Int32.lt_iff_toInt_lt] at c; omega)]
      · rw [if_neg c, if_neg (by rw [Int32.lt_iff_toInt_lt] at c; omega)]; exact ez
  obtain ⟨x0, x1, x2, x3, x4, x5, x6, x7, w0, w1, w2, w3, w4, w5, w6, w7, e7, k0, k1, k2, k3, k4, k5, k6, k7, u0, u1, u2, u3, u4, u5, u6, u7⟩ := fp
  have rb : ∀ (x : Int32) (c : Prop) [Decidable c] (z : Int), x.toInt = (if c then z % 256 else 0) → 0 ≤ x.toInt ∧ x.toInt < 256 := by
    intro x c _ z h; split at h <;> omega
  have t0 := own_stepU 0 x0 (rb _ _ _ k0).1 (rb _ _ _ k0).2
  have t1 := own_stepU w0 x1 (rb _ _ _ k1).1 (rb _ _ _ k1).2
  have t2 := own_stepU w1 x2 (rb _ _ _ k2).1 (rb _ _ _ k2).2
  have t3 := own_stepU w2 x3 (rb _ _ _ k3).1 (rb _ _ _ k3).2
  have t4 := own_stepU w3 x4 (rb _ _ _ k4).1 (rb _ _ _ k4).2
  have t5 := own_stepU w4 x5 (rb _ _ _ k5).1 (rb _ _ _ k5).2
  have t6 := own_stepU w5 x6 (rb _ _ _ k6).1 (rb _ _ _ k6).2
  have t7 := own_stepU w6 x7 (rb _ _ _ k7).1 (rb _ _ _ k7).2
  rw [← u0] at t0; rw [← u1] at t1; rw [← u2] at t2; rw [← u3] at t3; rw [← u4] at t4; rw [← u5] at t5; rw [← u6] at t6; rw [← u7] at t7
  have t00 : U (0 : Int64) = 0 := by decide
  rw [t00] at t0
  have uq : 0 ≤ U q0 ∧ U q0 < 18446744073709551616 := by unfold U; omega
  rw [hj413_s0, if_pos]
  rw [e7]
  apply own_U
  rw [hj393_12_1]
  clear u0 u1 u2 u3 u4 u5 u6 u7 z0 z1 z2 z3 z4 z5 z6 z7 rb e7 hj393_12_1 hj413_s0 hj335_s0 p0 p1 p2' p3' p4' p5 p6 p7
  have el : ∀ (m : Int64) (z : Int), m.toInt = z → (v344 < m ↔ n < z) := by intro m z h; rw [Int64.lt_iff_toInt_lt, hv, h]
  have el' : ∀ (m : Int64) (z : Int), m.toInt = z → (m < v344 ↔ z < n) := by intro m z h; rw [Int64.lt_iff_toInt_lt, hv, h]
  have ceq : ∀ (m : Int64) (z : Int), m.toInt = z → n = z → v344 = m := by intro m z h q; apply Int64.toInt_inj.mp; rw [hv, h, q]
  by_cases c0 : n ≤ 0
  · rw [if_neg (by rw [el' 0 0 (by decide)]; omega), t00]
    rw [if_neg (by omega)] at k0 k1 k2 k3 k4 k5 k6 k7
    omega
  · rw [if_pos (by rw [el' 0 0 (by decide)]; omega)]
    rw [if_pos (by omega)] at k0
    by_cases c8 : 8 ≤ n
    · rw [if_neg (by rw [el 8 8 (by decide)]; omega)]
      rw [if_pos (by omega)] at k1 k2 k3 k4 k5 k6 k7
      have s0 := own_full0 uq.1 uq.2 rfl k0 t0
      have s1 := own_full1 uq.1 uq.2 s0 k1 t1
      have s2 := own_full2 uq.1 uq.2 s1 k2 t2
      have s3 := own_full3 uq.1 uq.2 s2 k3 t3
      have s4 := own_full4 uq.1 uq.2 s3 k4 t4
      have s5 := own_full5 uq.1 uq.2 s4 k5 t5
      have s6 := own_full6 uq.1 uq.2 s5 k6 t6
      have s7 := own_full7 uq.1 uq.2 s6 (by rw [k7]; simp) t7
      rw [s7]; simp
    · rw [if_pos (by rw [el 8 8 (by decide)]; omega)]
      have cs : n = 1 ∨ n = 2 ∨ n = 3 ∨ n = 4 ∨ n = 5 ∨ n = 6 ∨ n = 7 := by omega
      rcases cs with c | c | c | c | c | c | c
      · rw [ceq 1 1 (by decide) c, own_maskU q0 _ 56 (by decide) (by decide +kernel)]
        rw [if_neg (by omega)] at k1 k2 k3 k4 k5 k6 k7
        show _ = U q0 / 72057594037927936 * 72057594037927936
        omega
      · rw [ceq 2 2 (by decide) c, own_maskU q0 _ 48 (by decide) (by decide +kernel)]
        rw [if_pos (by omega)] at k1
        rw [if_neg (by omega)] at k2 k3 k4 k5 k6 k7
        show _ = U q0 / 281474976710656 * 281474976710656
        omega
      · rw [ceq 3 3 (by decide) c, own_maskU q0 _ 40 (by decide) (by decide +kernel)]
        rw [if_pos (by omega)] at k1 k2
        rw [if_neg (by omega)] at k3 k4 k5 k6 k7
        show _ = U q0 / 1099511627776 * 1099511627776
        omega
      · rw [ceq 4 4 (by decide) c, own_maskU q0 _ 32 (by decide) (by decide +kernel)]
        rw [if_pos (by omega)] at k1 k2 k3
        rw [if_neg (by omega)] at k4 k5 k6 k7
        show _ = U q0 / 4294967296 * 4294967296
        omega
      · rw [ceq 5 5 (by decide) c, own_maskU q0 _ 24 (by decide) (by decide +kernel)]
        rw [if_pos (by omega)] at k1 k2 k3 k4
        rw [if_neg (by omega)] at k5 k6 k7
        show _ = U q0 / 16777216 * 16777216
        omega
      · rw [ceq 6 6 (by decide) c, own_maskU q0 _ 16 (by decide) (by decide +kernel)]
        rw [if_pos (by omega)] at k1 k2 k3 k4 k5
        rw [if_neg (by omega)] at k6 k7
        show _ = U q0 / 65536 * 65536
        omega
      · rw [ceq 7 7 (by decide) c, own_maskU q0 _ 8 (by decide) (by decide +kernel)]
        rw [if_pos (by omega)] at k1 k2 k3 k4 k5 k6
        rw [if_neg (by omega)] at k7
        show _ = U q0 / 256 * 256
        omega
theorem law_pn : plainName "com/example/termwright/termwright/RunsPrefixPinLaw" = true := by first | (simp [plainName, overriddenIn]; done) | decide +kernel
theorem law_pd0 : parseMethodDescriptor "([BII)J" = some ⟨[(.array .byte), .int, .int], some .long⟩ := by decide +kernel
theorem law_ef (m : MethodId) (x0 : Int64) (x1 : Int64) (x2 : Int32) (x3 : Int32) (x4 : Int32) : entryFrame m #[(.long x0), (.long x1), (.int x2), (.int x3), (.int x4)] maxLocals = mkF m 0 #[.val (.long x0), .second, .val (.long x1), .second, .val (.int x2), .val (.int x3), .val (.int x4), .unset, .unset, .unset, .unset, .unset, .unset, .unset] [] := by first | (simp [entryFrame, mkF, argsToLocals, Value.category, maxLocals]; done) | rfl
set_option maxRecDepth 65536 in
set_option maxHeartbeats 40000000 in
theorem rm_law (l : Launch) (Z : State) (a0 : Array Value) (hw : ∀ d ∈ tables_1, d.before a0 Z = true) (ws : List Jvm.Cond) (q0 : Int64) (q1 : Int64) (p2 : Int32) (p3 : Int32) (p4 : Int32) (h0 : Heap) (n0 : Nat) (Z0 : n0 ≤ h0.size) :
    MetFree l x (head1 (Jvm.Cond.code x code maxLocals ret :: ws) room_1) (fun a U => a = #[(.long q0), (.long q1), (.int p2), (.int p3), (.int p4)] ∧ Z.Warmed39 U.vm ∧ U.heap = h0) (fun _ _ _ _ _ => True) (fun _ U o U' => ∃ v L, o = .returned v ∧ QL n0 v U'.heap L ∧ FrameEnd U o U' L room_1.cells room_1.slots) := by
  refine MetFree.of_bodySF (plainFor_of_name law_pn) hisR ?_
  intro p e s m args below meth c s₁ Bd hml0 hP hK
  obtain ⟨rfl, hZ, hh⟩ := hP
  have hx := Bd.exec
  have hby := Bd.bytes
  have hml : c.maxLocals = 14 := hml0
  have hown : s.vm.findClass "com/example/termwright/termwright/RunsPrefixPinLaw" = some m.cls := findClass_of_methodNamed Bd.named
  have hnm := (name_of_methodNamed Bd.named Bd.method).1
  have X0 : Stand p l e room_1 s m #[(.long q0), (.long q1), (.int p2), (.int p3), (.int p4)] below meth c s₁ [] 0 0 := Stand.of_body Bd
  have e0 : s₁.heap = h0 := by rw [← hh, Bd.state]; rfl
  have N0 := Fr.nil n0
  obtain ⟨P0, hP0⟩ : ∃ P0 : State → Prop, P0 = fun t => Steps p.tables e below (s₁.setTop (entryFrame m #[(.long q0), (.long q1), (.int p2), (.int p3), (.int p4)] maxLocals)) t := ⟨_, rfl⟩
  have K0 : ∀ t, Steps p.tables e below (s₁.setTop (mkF m 0 #[.val (.long q0), .second, .val (.long q1), .second, .val (.int p2), .val (.int p3), .val (.int p4), .unset, .unset, .unset, .unset, .unset, .unset, .unset] [])) t → P0 t := by
    intro t k; rw [hP0]; exact castTop (law_ef m q0 q1 p2 p3 p4) k
  have K1 : ∀ t, Steps p.tables e below (s₁.setTop (mkF m 10 #[.val (.long q0), .second, .val (.long q1), .second, .val (.int p2), .val (.int p3), .val (.int p4), .val (.int ((p2 &&& (2147483647 : Int32)) % (9 : Int32))), .unset, .unset, .unset, .unset, .unset, .unset] [])) t → P0 t := by
    intro t kt
    refine K0 t ?_
    show Steps p.tables e below (s₁.setTop (mkF m 0 #[.val (.long q0), .second, .val (.long q1), .second, .val (.int p2), .val (.int p3), .val (.int p4), .unset, .unset, .unset, .unset, .unset, .unset, .unset] [])) t
    refine XS.iload X0.here hx rfl (hb hby at_0) rfl ?_
    show Steps p.tables e below (s₁.setTop (mkF m 2 #[.val (.long q0), .second, .val (.long q1), .second, .val (.int p2), .val (.int p3), .val (.int p4), .unset, .unset, .unset, .unset, .unset, .unset, .unset] [(.int p2)])) t
    refine X0.ldcInt hx hown (mvT hZ (hw _ (List.mem_of_getElem? (i := 0) rfl))) (g := (mkF m 2 #[.val (.long q0), .second, .val (.long q1), .second, .val (.int p2), .val (.int p3), .val (.int p4), .unset, .unset, .unset, .unset, .unset, .unset, .unset] [(.int p2)])) rfl (hb hby at_2) _ ?_
    show Steps p.tables e below (s₁.setTop (mkF m 4 #[.val (.long q0), .second, .val (.long q1), .second, .val (.int p2), .val (.int p3), .val (.int p4), .unset, .unset, .unset, .unset, .unset, .unset, .unset] [(.int (2147483647 : Int32)), (.int p2)])) t
    refine XS.iand X0.here hx rfl (hb hby at_4) rfl ?_
    show Steps p.tables e below (s₁.setTop (mkF m 5 #[.val (.long q0), .second, .val (.long q1), .second, .val (.int p2), .val (.int p3), .val (.int p4), .unset, .unset, .unset, .unset, .unset, .unset, .unset] [(.int (p2 &&& (2147483647 : Int32)))])) t
    refine XS.bipush X0.here hx rfl (hb hby at_5) ?_
    show Steps p.tables e below (s₁.setTop (mkF m 7 #[.val (.long q0), .second, .val (.long q1), .second, .val (.int p2), .val (.int p3), .val (.int p4), .unset, .unset, .unset, .unset, .unset, .unset, .unset] [(.int (9 : Int32)), (.int (p2 &&& (2147483647 : Int32)))])) t
    refine iremM X0 hx rfl (hb hby at_7) rfl (by decide) ?_
    show Steps p.tables e below (s₁.setTop (mkF m 8 #[.val (.long q0), .second, .val (.long q1), .second, .val (.int p2), .val (.int p3), .val (.int p4), .unset, .unset, .unset, .unset, .unset, .unset, .unset] [(.int ((p2 &&& (2147483647 : Int32)) % (9 : Int32)))])) t
    refine XS.istore X0.here hx rfl (hb hby at_8) rfl (l' := #[.val (.long q0), .second, .val (.long q1), .second, .val (.int p2), .val (.int p3), .val (.int p4), .val (.int ((p2 &&& (2147483647 : Int32)) % (9 : Int32))), .unset, .unset, .unset, .unset, .unset, .unset]) rfl ?_
    exact kt
  obtain ⟨v8, hv8, K2⟩ : ∃ v8 : Int32, v8 = ((p2 &&& (2147483647 : Int32)) % (9 : Int32)) ∧ ∀ t, Steps p.tables e below (s₁.setTop (mkF m 10 #[.val (.long q0), .second, .val (.long q1), .second, .val (.int p2), .val (.int p3), .val (.int p4), .val (.int v8), .unset, .unset, .unset, .unset, .unset, .unset] [])) t → P0 t := ⟨_, rfl, K1⟩
  obtain ⟨T3, h3, k3, X3, e3, E3, A3, st3⟩ := newP X0 hx hZ (hw _ (List.mem_of_getElem? (i := 1) rfl)) e0 (g := (mkF m 12 #[.val (.long q0), .second, .val (.long q1), .second, .val (.int p2), .val (.int p3), .val (.int p4), .val (.int v8), .unset, .unset, .unset, .unset, .unset, .unset] [(.int (16 : Int32))])) rfl (hb hby at_12) rfl (by decide) (cap := 16) (by decide) (by decide) (by decide) (by decide)
  obtain ⟨b12, g3⟩ : ∃ z, z = h0.size := ⟨_, rfl⟩
  have g_b12 : n0 ≤ b12 := Nat.le_trans Z0 (Nat.le_of_eq g3.symm)
  rw [← g3] at A3 st3
  have Z3 : n0 ≤ h3.size := Nat.le_trans Z0 E3.1
  obtain ⟨f12, hf12, V3⟩ : ∃ f12 : Nat → Int32, f12 = (fun _ => 0) ∧ IA Z h3 b12 .byte 16 f12 := ⟨_, rfl, IA.new A3 rfl rfl (by decide)⟩
  obtain ⟨T4, h4, X4, e4, ⟨sl4, vv4, W4⟩, V4, st4⟩ := stBA X3 hx hZ e3 V3 (j := (0 : Int32)) (x := ((((q1.toUInt64 >>> ((56 : Int32) &&& 0x3f).toInt64.toUInt64).toInt64).toInt32).toInt8.toInt32)) (by decide) (g := (mkF m 25 #[.val (.long q0), .second, .val (.long q1), .second, .val (.int p2), .val (.int p3), .val (.int p4), .val (.int v8), .val (.ref b12), .unset, .unset, .unset, .unset, .unset] [(.int ((((q1.toUInt64 >>> ((56 : Int32) &&& 0x3f).toInt64.toUInt64).toInt64).toInt32).toInt8.toInt32)), (.int (0 : Int32)), (.ref b12)])) rfl rfl (hb hby at_25)
  have Z4 : n0 ≤ h4.size := Nat.le_trans Z3 (Keep.of_wr W4).1
  have N4 := Fr.snoc X4 N0 g_b12
  obtain ⟨f25, hf25, V4'⟩ : ∃ f25 : Nat → Int32, f25 = (upd f12 ((0 : Int32)).toNatClampNeg (nar .byte ((((q1.toUInt64 >>> ((56 : Int32) &&& 0x3f).toInt64.toUInt64).toInt64).toInt32).toInt8.toInt32))) ∧ IA Z h4 b12 .byte 16 f25 := ⟨_, rfl, V4⟩
  obtain ⟨T5, h5, X5, e5, ⟨sl5, vv5, W5⟩, V5, st5⟩ := stBA X4 hx hZ e4 V4' (j := (1 : Int32)) (x := ((((q1.toUInt64 >>> ((48 : Int32) &&& 0x3f).toInt64.toUInt64).toInt64).toInt32).toInt8.toInt32)) (by decide) (g := (mkF m 35 #[.val (.long q0), .second, .val (.long q1), .second, .val (.int p2), .val (.int p3), .val (.int p4), .val (.int v8), .val (.ref b12), .unset, .unset, .unset, .unset, .unset] [(.int ((((q1.toUInt64 >>> ((48 : Int32) &&& 0x3f).toInt64.toUInt64).toInt64).toInt32).toInt8.toInt32)), (.int (1 : Int32)), (.ref b12)])) rfl rfl (hb hby at_35)
  have Z5 : n0 ≤ h5.size := Nat.le_trans Z4 (Keep.of_wr W5).1
  have N5 := Fr.snoc X5 N4 g_b12
  obtain ⟨f35, hf35, V5'⟩ : ∃ f35 : Nat → Int32, f35 = (upd f25 ((1 : Int32)).toNatClampNeg (nar .byte ((((q1.toUInt64 >>> ((48 : Int32) &&& 0x3f).toInt64.toUInt64).toInt64).toInt32).toInt8.toInt32))) ∧ IA Z h5 b12 .byte 16 f35 := ⟨_, rfl, V5⟩
  obtain ⟨T6, h6, X6, e6, ⟨sl6, vv6, W6⟩, V6, st6⟩ := stBA X5 hx hZ e5 V5' (j := (2 : Int32)) (x := ((((q1.toUInt64 >>> ((40 : Int32) &&& 0x3f).toInt64.toUInt64).toInt64).toInt32).toInt8.toInt32)) (by decide) (g := (mkF m 45 #[.val (.long q0), .second, .val (.long q1), .second, .val (.int p2), .val (.int p3), .val (.int p4), .val (.int v8), .val (.ref b12), .unset, .unset, .unset, .unset, .unset] [(.int ((((q1.toUInt64 >>> ((40 : Int32) &&& 0x3f).toInt64.toUInt64).toInt64).toInt32).toInt8.toInt32)), (.int (2 : Int32)), (.ref b12)])) rfl rfl (hb hby at_45)
  have Z6 : n0 ≤ h6.size := Nat.le_trans Z5 (Keep.of_wr W6).1
  have N6 := Fr.snoc X6 N5 g_b12
  obtain ⟨f45, hf45, V6'⟩ : ∃ f45 : Nat → Int32, f45 = (upd f35 ((2 : Int32)).toNatClampNeg (nar .byte ((((q1.toUInt64 >>> ((40 : Int32) &&& 0x3f).toInt64.toUInt64).toInt64).toInt32).toInt8.toInt32))) ∧ IA Z h6 b12 .byte 16 f45 := ⟨_, rfl, V6⟩
  obtain ⟨T7, h7, X7, e7, ⟨sl7, vv7, W7⟩, V7, st7⟩ := stBA X6 hx hZ e6 V6' (j := (3 : Int32)) (x := ((((q1.toUInt64 >>> ((32 : Int32) &&& 0x3f).toInt64.toUInt64).toInt64).toInt32).toInt8.toInt32)) (by decide) (g := (mkF m 55 #[.val (.long q0), .second, .val (.long q1), .second, .val (.int p2), .val (.int p3), .val (.int p4), .val (.int v8), .val (.ref b12), .unset, .unset, .unset, .unset, .unset] [(.int ((((q1.toUInt64 >>> ((32 : Int32) &&& 0x3f).toInt64.toUInt64).toInt64).toInt32).toInt8.toInt32)), (.int (3 : Int32)), (.ref b12)])) rfl rfl (hb hby at_55)
  have Z7 : n0 ≤ h7.size := Nat.le_trans Z6 (Keep.of_wr W7).1
  have N7 := Fr.snoc X7 N6 g_b12
  obtain ⟨f55, hf55, V7'⟩ : ∃ f55 : Nat → Int32, f55 = (upd f45 ((3 : Int32)).toNatClampNeg (nar .byte ((((q1.toUInt64 >>> ((32 : Int32) &&& 0x3f).toInt64.toUInt64).toInt64).toInt32).toInt8.toInt32))) ∧ IA Z h7 b12 .byte 16 f55 := ⟨_, rfl, V7⟩
  obtain ⟨T8, h8, X8, e8, ⟨sl8, vv8, W8⟩, V8, st8⟩ := stBA X7 hx hZ e7 V7' (j := (4 : Int32)) (x := ((((q1.toUInt64 >>> ((24 : Int32) &&& 0x3f).toInt64.toUInt64).toInt64).toInt32).toInt8.toInt32)) (by decide) (g := (mkF m 65 #[.val (.long q0), .second, .val (.long q1), .second, .val (.int p2), .val (.int p3), .val (.int p4), .val (.int v8), .val (.ref b12), .unset, .unset, .unset, .unset, .unset] [(.int ((((q1.toUInt64 >>> ((24 : Int32) &&& 0x3f).toInt64.toUInt64).toInt64).toInt32).toInt8.toInt32)), (.int (4 : Int32)), (.ref b12)])) rfl rfl (hb hby at_65)
  have Z8 : n0 ≤ h8.size := Nat.le_trans Z7 (Keep.of_wr W8).1
  have N8 := Fr.snoc X8 N7 g_b12
  obtain ⟨f65, hf65, V8'⟩ : ∃ f65 : Nat → Int32, f65 = (upd f55 ((4 : Int32)).toNatClampNeg (nar .byte ((((q1.toUInt64 >>> ((24 : Int32) &&& 0x3f).toInt64.toUInt64).toInt64).toInt32).toInt8.toInt32))) ∧ IA Z h8 b12 .byte 16 f65 := ⟨_, rfl, V8⟩
  obtain ⟨T9, h9, X9, e9, ⟨sl9, vv9, W9⟩, V9, st9⟩ := stBA X8 hx hZ e8 V8' (j := (5 : Int32)) (x := ((((q1.toUInt64 >>> ((16 : Int32) &&& 0x3f).toInt64.toUInt64).toInt64).toInt32).toInt8.toInt32)) (by decide) (g := (mkF m 75 #[.val (.long q0), .second, .val (.long q1), .second, .val (.int p2), .val (.int p3), .val (.int p4), .val (.int v8), .val (.ref b12), .unset, .unset, .unset, .unset, .unset] [(.int ((((q1.toUInt64 >>> ((16 : Int32) &&& 0x3f).toInt64.toUInt64).toInt64).toInt32).toInt8.toInt32)), (.int (5 : Int32)), (.ref b12)])) rfl rfl (hb hby at_75)
  have Z9 : n0 ≤ h9.size := Nat.le_trans Z8 (Keep.of_wr W9).1
  have N9 := Fr.snoc X9 N8 g_b12
  obtain ⟨f75, hf75, V9'⟩ : ∃ f75 : Nat → Int32, f75 = (upd f65 ((5 : Int32)).toNatClampNeg (nar .byte ((((q1.toUInt64 >>> ((16 : Int32) &&& 0x3f).toInt64.toUInt64).toInt64).toInt32).toInt8.toInt32))) ∧ IA Z h9 b12 .byte 16 f75 := ⟨_, rfl, V9⟩
  obtain ⟨T10, h10, X10, e10, ⟨sl10, vv10, W10⟩, V10, st10⟩ := stBA X9 hx hZ e9 V9' (j := (6 : Int32)) (x := ((((q1.toUInt64 >>> ((8 : Int32) &&& 0x3f).toInt64.toUInt64).toInt64).toInt32).toInt8.toInt32)) (by decide) (g := (mkF m 86 #[.val (.long q0), .second, .val (.long q1), .second, .val (.int p2), .val (.int p3), .val (.int p4), .val (.int v8), .val (.ref b12), .unset, .unset, .unset, .unset, .unset] [(.int ((((q1.toUInt64 >>> ((8 : Int32) &&& 0x3f).toInt64.toUInt64).toInt64).toInt32).toInt8.toInt32)), (.int (6 : Int32)), (.ref b12)])) rfl rfl (hb hby at_86)
  have Z10 : n0 ≤ h10.size := Nat.le_trans Z9 (Keep.of_wr W10).1
  have N10 := Fr.snoc X10 N9 g_b12
  obtain ⟨f86, hf86, V10'⟩ : ∃ f86 : Nat → Int32, f86 = (upd f75 ((6 : Int32)).toNatClampNeg (nar .byte ((((q1.toUInt64 >>> ((8 : Int32) &&& 0x3f).toInt64.toUInt64).toInt64).toInt32).toInt8.toInt32))) ∧ IA Z h10 b12 .byte 16 f86 := ⟨_, rfl, V10⟩
  obtain ⟨T11, h11, X11, e11, ⟨sl11, vv11, W11⟩, V11, st11⟩ := stBA X10 hx hZ e10 V10' (j := (7 : Int32)) (x := ((q1.toInt32).toInt8.toInt32)) (by decide) (g := (mkF m 94 #[.val (.long q0), .second, .val (.long q1), .second, .val (.int p2), .val (.int p3), .val (.int p4), .val (.int v8), .val (.ref b12), .unset, .unset, .unset, .unset, .unset] [(.int ((q1.toInt32).toInt8.toInt32)), (.int (7 : Int32)), (.ref b12)])) rfl rfl (hb hby at_94)
  have Z11 : n0 ≤ h11.size := Nat.le_trans Z10 (Keep.of_wr W11).1
  have N11 := Fr.snoc X11 N10 g_b12
  obtain ⟨f94, hf94, V11'⟩ : ∃ f94 : Nat → Int32, f94 = (upd f86 ((7 : Int32)).toNatClampNeg (nar .byte ((q1.toInt32).toInt8.toInt32))) ∧ IA Z h11 b12 .byte 16 f94 := ⟨_, rfl, V11⟩
  obtain ⟨T12, h12, X12, e12, ⟨sl12, vv12, W12⟩, V12, st12⟩ := stBA X11 hx hZ e11 V11' (j := (8 : Int32)) (x := (((((q1.toUInt64 >>> ((56 : Int32) &&& 0x3f).toInt64.toUInt64).toInt64) ^^^ (-1 : Int64)).toInt32).toInt8.toInt32)) (by decide) (g := (mkF m 109 #[.val (.long q0), .second, .val (.long q1), .second, .val (.int p2), .val (.int p3), .val (.int p4), .val (.int v8), .val (.ref b12), .unset, .unset, .unset, .unset, .unset] [(.int (((((q1.toUInt64 >>> ((56 : Int32) &&& 0x3f).toInt64.toUInt64).toInt64) ^^^ (-1 : Int64)).toInt32).toInt8.toInt32)), (.int (8 : Int32)), (.ref b12)])) rfl rfl (hb hby at_109)
  have Z12 : n0 ≤ h12.size := Nat.le_trans Z11 (Keep.of_wr W12).1
  have N12 := Fr.snoc X12 N11 g_b12
  obtain ⟨f109, hf109, V12'⟩ : ∃ f109 : Nat → Int32, f109 = (upd f94 ((8 : Int32)).toNatClampNeg (nar .byte (((((q1.toUInt64 >>> ((56 : Int32) &&& 0x3f).toInt64.toUInt64).toInt64) ^^^ (-1 : Int64)).toInt32).toInt8.toInt32))) ∧ IA Z h12 b12 .byte 16 f109 := ⟨_, rfl, V12⟩
  obtain ⟨T13, h13, X13, e13, ⟨sl13, vv13, W13⟩, V13, st13⟩ := stBA X12 hx hZ e12 V12' (j := (9 : Int32)) (x := (((((q1.toUInt64 >>> ((48 : Int32) &&& 0x3f).toInt64.toUInt64).toInt64) ^^^ (-1 : Int64)).toInt32).toInt8.toInt32)) (by decide) (g := (mkF m 124 #[.val (.long q0), .second, .val (.long q1), .second, .val (.int p2), .val (.int p3), .val (.int p4), .val (.int v8), .val (.ref b12), .unset, .unset, .unset, .unset, .unset] [(.int (((((q1.toUInt64 >>> ((48 : Int32) &&& 0x3f).toInt64.toUInt64).toInt64) ^^^ (-1 : Int64)).toInt32).toInt8.toInt32)), (.int (9 : Int32)), (.ref b12)])) rfl rfl (hb hby at_124)
  have Z13 : n0 ≤ h13.size := Nat.le_trans Z12 (Keep.of_wr W13).1
  have N13 := Fr.snoc X13 N12 g_b12
  obtain ⟨f124, hf124, V13'⟩ : ∃ f124 : Nat → Int32, f124 = (upd f109 ((9 : Int32)).toNatClampNeg (nar .byte (((((q1.toUInt64 >>> ((48 : Int32) &&& 0x3f).toInt64.toUInt64).toInt64) ^^^ (-1 : Int64)).toInt32).toInt8.toInt32))) ∧ IA Z h13 b12 .byte 16 f124 := ⟨_, rfl, V13⟩
  obtain ⟨T14, h14, X14, e14, ⟨sl14, vv14, W14⟩, V14, st14⟩ := stBA X13 hx hZ e13 V13' (j := (10 : Int32)) (x := (((((q1.toUInt64 >>> ((40 : Int32) &&& 0x3f).toInt64.toUInt64).toInt64) ^^^ (-1 : Int64)).toInt32).toInt8.toInt32)) (by decide) (g := (mkF m 139 #[.val (.long q0), .second, .val (.long q1), .second, .val (.int p2), .val (.int p3), .val (.int p4), .val (.int v8), .val (.ref b12), .unset, .unset, .unset, .unset, .unset] [(.int (((((q1.toUInt64 >>> ((40 : Int32) &&& 0x3f).toInt64.toUInt64).toInt64) ^^^ (-1 : Int64)).toInt32).toInt8.toInt32)), (.int (10 : Int32)), (.ref b12)])) rfl rfl (hb hby at_139)
  have Z14 : n0 ≤ h14.size := Nat.le_trans Z13 (Keep.of_wr W14).1
  have N14 := Fr.snoc X14 N13 g_b12
  obtain ⟨f139, hf139, V14'⟩ : ∃ f139 : Nat → Int32, f139 = (upd f124 ((10 : Int32)).toNatClampNeg (nar .byte (((((q1.toUInt64 >>> ((40 : Int32) &&& 0x3f).toInt64.toUInt64).toInt64) ^^^ (-1 : Int64)).toInt32).toInt8.toInt32))) ∧ IA Z h14 b12 .byte 16 f139 := ⟨_, rfl, V14⟩
  obtain ⟨T15, h15, X15, e15, ⟨sl15, vv15, W15⟩, V15, st15⟩ := stBA X14 hx hZ e14 V14' (j := (11 : Int32)) (x := (((((q1.toUInt64 >>> ((32 : Int32) &&& 0x3f).toInt64.toUInt64).toInt64) ^^^ (-1 : Int64)).toInt32).toInt8.toInt32)) (by decide) (g := (mkF m 154 #[.val (.long q0), .second, .val (.long q1), .second, .val (.int p2), .val (.int p3), .val (.int p4), .val (.int v8), .val (.ref b12), .unset, .unset, .unset, .unset, .unset] [(.int (((((q1.toUInt64 >>> ((32 : Int32) &&& 0x3f).toInt64.toUInt64).toInt64) ^^^ (-1 : Int64)).toInt32).toInt8.toInt32)), (.int (11 : Int32)), (.ref b12)])) rfl rfl (hb hby at_154)
  have Z15 : n0 ≤ h15.size := Nat.le_trans Z14 (Keep.of_wr W15).1
  have N15 := Fr.snoc X15 N14 g_b12
  obtain ⟨f154, hf154, V15'⟩ : ∃ f154 : Nat → Int32, f154 = (upd f139 ((11 : Int32)).toNatClampNeg (nar .byte (((((q1.toUInt64 >>> ((32 : Int32) &&& 0x3f).toInt64.toUInt64).toInt64) ^^^ (-1 : Int64)).toInt32).toInt8.toInt32))) ∧ IA Z h15 b12 .byte 16 f154 := ⟨_, rfl, V15⟩
  obtain ⟨T16, h16, X16, e16, ⟨sl16, vv16, W16⟩, V16, st16⟩ := stBA X15 hx hZ e15 V15' (j := (12 : Int32)) (x := (((((q1.toUInt64 >>> ((24 : Int32) &&& 0x3f).toInt64.toUInt64).toInt64) ^^^ (-1 : Int64)).toInt32).toInt8.toInt32)) (by decide) (g := (mkF m 169 #[.val (.long q0), .second, .val (.long q1), .second, .val (.int p2), .val (.int p3), .val (.int p4), .val (.int v8), .val (.ref b12), .unset, .unset, .unset, .unset, .unset] [(.int (((((q1.toUInt64 >>> ((24 : Int32) &&& 0x3f).toInt64.toUInt64).toInt64) ^^^ (-1 : Int64)).toInt32).toInt8.toInt32)), (.int (12 : Int32)), (.ref b12)])) rfl rfl (hb hby at_169)
  have Z16 : n0 ≤ h16.size := Nat.le_trans Z15 (Keep.of_wr W16).1
  have N16 := Fr.snoc X16 N15 g_b12
  obtain ⟨f169, hf169, V16'⟩ : ∃ f169 : Nat → Int32, f169 = (upd f154 ((12 : Int32)).toNatClampNeg (nar .byte (((((q1.toUInt64 >>> ((24 : Int32) &&& 0x3f).toInt64.toUInt64).toInt64) ^^^ (-1 : Int64)).toInt32).toInt8.toInt32))) ∧ IA Z h16 b12 .byte 16 f169 := ⟨_, rfl, V16⟩
  obtain ⟨T17, h17, X17, e17, ⟨sl17, vv17, W17⟩, V17, st17⟩ := stBA X16 hx hZ e16 V16' (j := (13 : Int32)) (x := (((((q1.toUInt64 >>> ((16 : Int32) &&& 0x3f).toInt64.toUInt64).toInt64) ^^^ (-1 : Int64)).toInt32).toInt8.toInt32)) (by decide) (g := (mkF m 184 #[.val (.long q0), .second, .val (.long q1), .second, .val (.int p2), .val (.int p3), .val (.int p4), .val (.int v8), .val (.ref b12), .unset, .unset, .unset, .unset, .unset] [(.int (((((q1.toUInt64 >>> ((16 : Int32) &&& 0x3f).toInt64.toUInt64).toInt64) ^^^ (-1 : Int64)).toInt32).toInt8.toInt32)), (.int (13 : Int32)), (.ref b12)])) rfl rfl (hb hby at_184)
  have Z17 : n0 ≤ h17.size := Nat.le_trans Z16 (Keep.of_wr W17).1
  have N17 := Fr.snoc X17 N16 g_b12
  obtain ⟨f184, hf184, V17'⟩ : ∃ f184 : Nat → Int32, f184 = (upd f169 ((13 : Int32)).toNatClampNeg (nar .byte (((((q1.toUInt64 >>> ((16 : Int32) &&& 0x3f).toInt64.toUInt64).toInt64) ^^^ (-1 : Int64)).toInt32).toInt8.toInt32))) ∧ IA Z h17 b12 .byte 16 f184 := ⟨_, rfl, V17⟩
  obtain ⟨T18, h18, X18, e18, ⟨sl18, vv18, W18⟩, V18, st18⟩ := stBA X17 hx hZ e17 V17' (j := (14 : Int32)) (x := (((((q1.toUInt64 >>> ((8 : Int32) &&& 0x3f).toInt64.toUInt64).toInt64) ^^^ (-1 : Int64)).toInt32).toInt8.toInt32)) (by decide) (g := (mkF m 199 #[.val (.long q0), .second, .val (.long q1), .second, .val (.int p2), .val (.int p3), .val (.int p4), .val (.int v8), .val (.ref b12), .unset, .unset, .unset, .unset, .unset] [(.int (((((q1.toUInt64 >>> ((8 : Int32) &&& 0x3f).toInt64.toUInt64).toInt64) ^^^ (-1 : Int64)).toInt32).toInt8.toInt32)), (.int (14 : Int32)), (.ref b12)])) rfl rfl (hb hby at_199)
  have Z18 : n0 ≤ h18.size := Nat.le_trans Z17 (Keep.of_wr W18).1
  have N18 := Fr.snoc X18 N17 g_b12
  obtain ⟨f199, hf199, V18'⟩ : ∃ f199 : Nat → Int32, f199 = (upd f184 ((14 : Int32)).toNatClampNeg (nar .byte (((((q1.toUInt64 >>> ((8 : Int32) &&& 0x3f).toInt64.toUInt64).toInt64) ^^^ (-1 : Int64)).toInt32).toInt8.toInt32))) ∧ IA Z h18 b12 .byte 16 f199 := ⟨_, rfl, V18⟩
  obtain ⟨T19, h19, X19, e19, ⟨sl19, vv19, W19⟩, V19, st19⟩ := stBA X18 hx hZ e18 V18' (j := (15 : Int32)) (x := (((q1 ^^^ (-1 : Int64)).toInt32).toInt8.toInt32)) (by decide) (g := (mkF m 211 #[.val (.long q0), .second, .val (.long q1), .second, .val (.int p2), .val (.int p3), .val (.int p4), .val (.int v8), .val (.ref b12), .unset, .unset, .unset, .unset, .unset] [(.int (((q1 ^^^ (-1 : Int64)).toInt32).toInt8.toInt32)), (.int (15 : Int32)), (.ref b12)])) rfl rfl (hb hby at_211)
  have Z19 : n0 ≤ h19.size := Nat.le_trans Z18 (Keep.of_wr W19).1
  have N19 := Fr.snoc X19 N18 g_b12
  obtain ⟨f211, hf211, V19'⟩ : ∃ f211 : Nat → Int32, f211 = (upd f199 ((15 : Int32)).toNatClampNeg (nar .byte (((q1 ^^^ (-1 : Int64)).toInt32).toInt8.toInt32))) ∧ IA Z h19 b12 .byte 16 f211 := ⟨_, rfl, V19⟩
  obtain ⟨T20, h20, X20, e20, ⟨sl20, vv20, W20⟩, V20, st20⟩ := stBA X19 hx hZ e19 V19' (j := v8) (x := ((((q0.toUInt64 >>> ((56 : Int32) &&& 0x3f).toInt64.toUInt64).toInt64).toInt32).toInt8.toInt32)) (own_hin0 hv8) (g := (mkF m 222 #[.val (.long q0), .second, .val (.long q1), .second, .val (.int p2), .val (.int p3), .val (.int p4), .val (.int v8), .val (.ref b12), .unset, .unset, .unset, .unset, .unset] [(.int ((((q0.toUInt64 >>> ((56 : Int32) &&& 0x3f).toInt64.toUInt64).toInt64).toInt32).toInt8.toInt32)), (.int v8), (.ref b12)])) rfl rfl (hb hby at_222)
  have Z20 : n0 ≤ h20.size := Nat.le_trans Z19 (Keep.of_wr W20).1
  have N20 := Fr.snoc X20 N19 g_b12
  obtain ⟨f222, hf222, V20'⟩ : ∃ f222 : Nat → Int32, f222 = (upd f211 (v8).toNatClampNeg (nar .byte ((((q0.toUInt64 >>> ((56 : Int32) &&& 0x3f).toInt64.toUInt64).toInt64).toInt32).toInt8.toInt32))) ∧ IA Z h20 b12 .byte 16 f222 := ⟨_, rfl, V20⟩
  obtain ⟨T21, h21, X21, e21, ⟨sl21, vv21, W21⟩, V21, st21⟩ := stBA X20 hx hZ e20 V20' (j := (v8 + (1 : Int32))) (x := ((((q0.toUInt64 >>> ((48 : Int32) &&& 0x3f).toInt64.toUInt64).toInt64).toInt32).toInt8.toInt32)) (own_hin hv8 1 (by decide)) (g := (mkF m 235 #[.val (.long q0), .second, .val (.long q1), .second, .val (.int p2), .val (.int p3), .val (.int p4), .val (.int v8), .val (.ref b12), .unset, .unset, .unset, .unset, .unset] [(.int ((((q0.toUInt64 >>> ((48 : Int32) &&& 0x3f).toInt64.toUInt64).toInt64).toInt32).toInt8.toInt32)), (.int (v8 + (1 : Int32))), (.ref b12)])) rfl rfl (hb hby at_235)
  have Z21 : n0 ≤ h21.size := Nat.le_trans Z20 (Keep.of_wr W21).1
  have N21 := Fr.snoc X21 N20 g_b12
  obtain ⟨f235, hf235, V21'⟩ : ∃ f235 : Nat → Int32, f235 = (upd f222 ((v8 + (1 : Int32))).toNatClampNeg (nar .byte ((((q0.toUInt64 >>> ((48 : Int32) &&& 0x3f).toInt64.toUInt64).toInt64).toInt32).toInt8.toInt32))) ∧ IA Z h21 b12 .byte 16 f235 := ⟨_, rfl, V21⟩
  obtain ⟨T22, h22, X22, e22, ⟨sl22, vv22, W22⟩, V22, st22⟩ := stBA X21 hx hZ e21 V21' (j := (v8 + (2 : Int32))) (x := ((((q0.toUInt64 >>> ((40 : Int32) &&& 0x3f).toInt64.toUInt64).toInt64).toInt32).toInt8.toInt32)) (own_hin hv8 2 (by decide)) (g := (mkF m 248 #[.val (.long q0), .second, .val (.long q1), .second, .val (.int p2), .val (.int p3), .val (.int p4), .val (.int v8), .val (.ref b12), .unset, .unset, .unset, .unset, .unset] [(.int ((((q0.toUInt64 >>> ((40 : Int32) &&& 0x3f).toInt64.toUInt64).toInt64).toInt32).toInt8.toInt32)), (.int (v8 + (2 : Int32))), (.ref b12)])) rfl rfl (hb hby at_248)
  have Z22 : n0 ≤ h22.size := Nat.le_trans Z21 (Keep.of_wr W22).1
  have N22 := Fr.snoc X22 N21 g_b12
  obtain ⟨f248, hf248, V22'⟩ : ∃ f248 : Nat → Int32, f248 = (upd f235 ((v8 + (2 : Int32))).toNatClampNeg (nar .byte ((((q0.toUInt64 >>> ((40 : Int32) &&& 0x3f).toInt64.toUInt64).toInt64).toInt32).toInt8.toInt32))) ∧ IA Z h22 b12 .byte 16 f248 := ⟨_, rfl, V22⟩
  obtain ⟨T23, h23, X23, e23, ⟨sl23, vv23, W23⟩, V23, st23⟩ := stBA X22 hx hZ e22 V22' (j := (v8 + (3 : Int32))) (x := ((((q0.toUInt64 >>> ((32 : Int32) &&& 0x3f).toInt64.toUInt64).toInt64).toInt32).toInt8.toInt32)) (own_hin hv8 3 (by decide)) (g := (mkF m 261 #[.val (.long q0), .second, .val (.long q1), .second, .val (.int p2), .val (.int p3), .val (.int p4), .val (.int v8), .val (.ref b12), .unset, .unset, .unset, .unset, .unset] [(.int ((((q0.toUInt64 >>> ((32 : Int32) &&& 0x3f).toInt64.toUInt64).toInt64).toInt32).toInt8.toInt32)), (.int (v8 + (3 : Int32))), (.ref b12)])) rfl rfl (hb hby at_261)
  have Z23 : n0 ≤ h23.size := Nat.le_trans Z22 (Keep.of_wr W23).1
  have N23 := Fr.snoc X23 N22 g_b12
  obtain ⟨f261, hf261, V23'⟩ : ∃ f261 : Nat → Int32, f261 = (upd f248 ((v8 + (3 : Int32))).toNatClampNeg (nar .byte ((((q0.toUInt64 >>> ((32 : Int32) &&& 0x3f).toInt64.toUInt64).toInt64).toInt32).toInt8.toInt32))) ∧ IA Z h23 b12 .byte 16 f261 := ⟨_, rfl, V23⟩
  obtain ⟨T24, h24, X24, e24, ⟨sl24, vv24, W24⟩, V24, st24⟩ := stBA X23 hx hZ e23 V23' (j := (v8 + (4 : Int32))) (x := ((((q0.toUInt64 >>> ((24 : Int32) &&& 0x3f).toInt64.toUInt64).toInt64).toInt32).toInt8.toInt32)) (own_hin hv8 4 (by decide)) (g := (mkF m 274 #[.val (.long q0), .second, .val (.long q1), .second, .val (.int p2), .val (.int p3), .val (.int p4), .val (.int v8), .val (.ref b12), .unset, .unset, .unset, .unset, .unset] [(.int ((((q0.toUInt64 >>> ((24 : Int32) &&& 0x3f).toInt64.toUInt64).toInt64).toInt32).toInt8.toInt32)), (.int (v8 + (4 : Int32))), (.ref b12)])) rfl rfl (hb hby at_274)
  have Z24 : n0 ≤ h24.size := Nat.le_trans Z23 (Keep.of_wr W24).1
  have N24 := Fr.snoc X24 N23 g_b12
  obtain ⟨f274, hf274, V24'⟩ : ∃ f274 : Nat → Int32, f274 = (upd f261 ((v8 + (4 : Int32))).toNatClampNeg (nar .byte ((((q0.toUInt64 >>> ((24 : Int32) &&& 0x3f).toInt64.toUInt64).toInt64).toInt32).toInt8.toInt32))) ∧ IA Z h24 b12 .byte 16 f274 := ⟨_, rfl, V24⟩
  obtain ⟨T25, h25, X25, e25, ⟨sl25, vv25, W25⟩, V25, st25⟩ := stBA X24 hx hZ e24 V24' (j := (v8 + (5 : Int32))) (x := ((((q0.toUInt64 >>> ((16 : Int32) &&& 0x3f).toInt64.toUInt64).toInt64).toInt32).toInt8.toInt32)) (own_hin hv8 5 (by decide)) (g := (mkF m 287 #[.val (.long q0), .second, .val (.long q1), .second, .val (.int p2), .val (.int p3), .val (.int p4), .val (.int v8), .val (.ref b12), .unset, .unset, .unset, .unset, .unset] [(.int ((((q0.toUInt64 >>> ((16 : Int32) &&& 0x3f).toInt64.toUInt64).toInt64).toInt32).toInt8.toInt32)), (.int (v8 + (5 : Int32))), (.ref b12)])) rfl rfl (hb hby at_287)
  have Z25 : n0 ≤ h25.size := Nat.le_trans Z24 (Keep.of_wr W25).1
  have N25 := Fr.snoc X25 N24 g_b12
  obtain ⟨f287, hf287, V25'⟩ : ∃ f287 : Nat → Int32, f287 = (upd f274 ((v8 + (5 : Int32))).toNatClampNeg (nar .byte ((((q0.toUInt64 >>> ((16 : Int32) &&& 0x3f).toInt64.toUInt64).toInt64).toInt32).toInt8.toInt32))) ∧ IA Z h25 b12 .byte 16 f287 := ⟨_, rfl, V25⟩
  obtain ⟨T26, h26, X26, e26, ⟨sl26, vv26, W26⟩, V26, st26⟩ := stBA X25 hx hZ e25 V25' (j := (v8 + (6 : Int32))) (x := ((((q0.toUInt64 >>> ((8 : Int32) &&& 0x3f).toInt64.toUInt64).toInt64).toInt32).toInt8.toInt32)) (own_hin hv8 6 (by decide)) (g := (mkF m 301 #[.val (.long q0), .second, .val (.long q1), .second, .val (.int p2), .val (.int p3), .val (.int p4), .val (.int v8), .val (.ref b12), .unset, .unset, .unset, .unset, .unset] [(.int ((((q0.toUInt64 >>> ((8 : Int32) &&& 0x3f).toInt64.toUInt64).toInt64).toInt32).toInt8.toInt32)), (.int (v8 + (6 : Int32))), (.ref b12)])) rfl rfl (hb hby at_301)
  have Z26 : n0 ≤ h26.size := Nat.le_trans Z25 (Keep.of_wr W26).1
  have N26 := Fr.snoc X26 N25 g_b12
  obtain ⟨f301, hf301, V26'⟩ : ∃ f301 : Nat → Int32, f301 = (upd f287 ((v8 + (6 : Int32))).toNatClampNeg (nar .byte ((((q0.toUInt64 >>> ((8 : Int32) &&& 0x3f).toInt64.toUInt64).toInt64).toInt32).toInt8.toInt32))) ∧ IA Z h26 b12 .byte 16 f301 := ⟨_, rfl, V26⟩
  obtain ⟨T27, h27, X27, e27, ⟨sl27, vv27, W27⟩, V27, st27⟩ := stBA X26 hx hZ e26 V26' (j := (v8 + (7 : Int32))) (x := ((q0.toInt32).toInt8.toInt32)) (own_hin hv8 7 (by decide)) (g := (mkF m 312 #[.val (.long q0), .second, .val (.long q1), .second, .val (.int p2), .val (.int p3), .val (.int p4), .val (.int v8), .val (.ref b12), .unset, .unset, .unset, .unset, .unset] [(.int ((q0.toInt32).toInt8.toInt32)), (.int (v8 + (7 : Int32))), (.ref b12)])) rfl rfl (hb hby at_312)
  have Z27 : n0 ≤ h27.size := Nat.le_trans Z26 (Keep.of_wr W27).1
  have N27 := Fr.snoc X27 N26 g_b12
  obtain ⟨f312, hf312, V27'⟩ : ∃ f312 : Nat → Int32, f312 = (upd f301 ((v8 + (7 : Int32))).toNatClampNeg (nar .byte ((q0.toInt32).toInt8.toInt32))) ∧ IA Z h27 b12 .byte 16 f312 := ⟨_, rfl, V27⟩
  have K28 : ∀ t, Steps p.tables e below (T27.setTop (mkF m 317 #[.val (.long q0), .second, .val (.long q1), .second, .val (.int p2), .val (.int p3), .val (.int p4), .val (.int v8), .val (.ref b12), .unset, .unset, .unset, .unset, .unset] [(.int (p4 &&& (1 : Int32)))])) t → P0 t := by
    intro t kt
    refine K2 t ?_
    show Steps p.tables e below (s₁.setTop (mkF m 10 #[.val (.long q0), .second, .val (.long q1), .second, .val (.int p2), .val (.int p3), .val (.int p4), .val (.int v8), .unset, .unset, .unset, .unset, .unset, .unset] [])) t
    refine XS.bipush X0.here hx rfl (hb hby at_10) ?_
    show Steps p.tables e below (s₁.setTop (mkF m 12 #[.val (.long q0), .second, .val (.long q1), .second, .val (.int p2), .val (.int p3), .val (.int p4), .val (.int v8), .unset, .unset, .unset, .unset, .unset, .unset] [(.int (16 : Int32))])) t
    refine st3 _ ?_
    show Steps p.tables e below (T3.setTop (mkF m 14 #[.val (.long q0), .second, .val (.long q1), .second, .val (.int p2), .val (.int p3), .val (.int p4), .val (.int v8), .unset, .unset, .unset, .unset, .unset, .unset] [(.ref b12)])) t
    refine XS.astore X3.here hx rfl (hb hby at_14) rfl rfl (l' := #[.val (.long q0), .second, .val (.long q1), .second, .val (.int p2), .val (.int p3), .val (.int p4), .val (.int v8), .val (.ref b12), .unset, .unset, .unset, .unset, .unset]) rfl ?_
    show Steps p.tables e below (T3.setTop (mkF m 16 #[.val (.long q0), .second, .val (.long q1), .second, .val (.int p2), .val (.int p3), .val (.int p4), .val (.int v8), .val (.ref b12), .unset, .unset, .unset, .unset, .unset] [])) t
    refine XS.aload X3.here hx rfl (hb hby at_16) rfl rfl ?_
    show Steps p.tables e below (T3.setTop (mkF m 18 #[.val (.long q0), .second, .val (.long q1), .second, .val (.int p2), .val (.int p3), .val (.int p4), .val (.int v8), .val (.ref b12), .unset, .unset, .unset, .unset, .unset] [(.ref b12)])) t
    refine XS.iconst X3.here hx rfl (hb hby at_18) ?_
    show Steps p.tables e below (T3.setTop (mkF m 19 #[.val (.long q0), .second, .val (.long q1), .second, .val (.int p2), .val (.int p3), .val (.int p4), .val (.int v8), .val (.ref b12), .unset, .unset, .unset, .unset, .unset] [(.int (0 : Int32)), (.ref b12)])) t
    refine XS.lloadN X3.here hx rfl (hb hby at_19) rfl ?_
    show Steps p.tables e below (T3.setTop (mkF m 20 #[.val (.long q0), .second, .val (.long q1), .second, .val (.int p2), .val (.int p3), .val (.int p4), .val (.int v8), .val (.ref b12), .unset, .unset, .unset, .unset, .unset] [(.long q1), (.int (0 : Int32)), (.ref b12)])) t
    refine XS.bipush X3.here hx rfl (hb hby at_20) ?_
    show Steps p.tables e below (T3.setTop (mkF m 22 #[.val (.long q0), .second, .val (.long q1), .second, .val (.int p2), .val (.int p3), .val (.int p4), .val (.int v8), .val (.ref b12), .unset, .unset, .unset, .unset, .unset] [(.int (56 : Int32)), (.long q1), (.int (0 : Int32)), (.ref b12)])) t
    refine XS.lushr X3.here hx rfl (hb hby at_22) rfl ?_
    show Steps p.tables e below (T3.setTop (mkF m 23 #[.val (.long q0), .second, .val (.long q1), .second, .val (.int p2), .val (.int p3), .val (.int p4), .val (.int v8), .val (.ref b12), .unset, .unset, .unset, .unset, .unset] [(.long ((q1.toUInt64 >>> ((56 : Int32) &&& 0x3f).toInt64.toUInt64).toInt64)), (.int (0 : Int32)), (.ref b12)])) t
    refine XS.l2i X3.here hx rfl (hb hby at_23) rfl ?_
    show Steps p.tables e below (T3.setTop (mkF m 24 #[.val (.long q0), .second, .val (.long q1), .second, .val (.int p2), .val (.int p3), .val (.int p4), .val (.int v8), .val (.ref b12), .unset, .unset, .unset, .unset, .unset] [(.int (((q1.toUInt64 >>> ((56 : Int32) &&& 0x3f).toInt64.toUInt64).toInt64).toInt32)), (.int (0 : Int32)), (.ref b12)])) t
    refine XS.i2b X3.here hx rfl (hb hby at_24) rfl ?_
    show Steps p.tables e below (T3.setTop (mkF m 25 #[.val (.long q0), .second, .val (.long q1), .second, .val (.int p2), .val (.int p3), .val (.int p4), .val (.int v8), .val (.ref b12), .unset, .unset, .unset, .unset, .unset] [(.int ((((q1.toUInt64 >>> ((56 : Int32) &&& 0x3f).toInt64.toUInt64).toInt64).toInt32).toInt8.toInt32)), (.int (0 : Int32)), (.ref b12)])) t
    refine st4 _ ?_
    show Steps p.tables e below (T4.setTop (mkF m 26 #[.val (.long q0), .second, .val (.long q1), .second, .val (.int p2), .val (.int p3), .val (.int p4), .val (.int v8), .val (.ref b12), .unset, .unset, .unset, .unset, .unset] [])) t
    refine XS.aload X4.here hx rfl (hb hby at_26) rfl rfl ?_
    show Steps p.tables e below (T4.setTop (mkF m 28 #[.val (.long q0), .second, .val (.long q1), .second, .val (.int p2), .val (.int p3), .val (.int p4), .val (.int v8), .val (.ref b12), .unset, .unset, .unset, .unset, .unset] [(.ref b12)])) t
    refine XS.iconst X4.here hx rfl (hb hby at_28) ?_
    show Steps p.tables e below (T4.setTop (mkF m 29 #[.val (.long q0), .second, .val (.long q1), .second, .val (.int p2), .val (.int p3), .val (.int p4), .val (.int v8), .val (.ref b12), .unset, .unset, .unset, .unset, .unset] [(.int (1 : Int32)), (.ref b12)])) t
    refine XS.lloadN X4.here hx rfl (hb hby at_29) rfl ?_
    show Steps p.tables e below (T4.setTop (mkF m 30 #[.val (.long q0), .second, .val (.long q1), .second, .val (.int p2), .val (.int p3), .val (.int p4), .val (.int v8), .val (.ref b12), .unset, .unset, .unset, .unset, .unset] [(.long q1), (.int (1 : Int32)), (.ref b12)])) t
    refine XS.bipush X4.here hx rfl (hb hby at_30) ?_
    show Steps p.tables e below (T4.setTop (mkF m 32 #[.val (.long q0), .second, .val (.long q1), .second, .val (.int p2), .val (.int p3), .val (.int p4), .val (.int v8), .val (.ref b12), .unset, .unset, .unset, .unset, .unset] [(.int (48 : Int32)), (.long q1), (.int (1 : Int32)), (.ref b12)])) t
    refine XS.lushr X4.here hx rfl (hb hby at_32) rfl ?_
    show Steps p.tables e below (T4.setTop (mkF m 33 #[.val (.long q0), .second, .val (.long q1), .second, .val (.int p2), .val (.int p3), .val (.int p4), .val (.int v8), .val (.ref b12), .unset, .unset, .unset, .unset, .unset] [(.long ((q1.toUInt64 >>> ((48 : Int32) &&& 0x3f).toInt64.toUInt64).toInt64)), (.int (1 : Int32)), (.ref b12)])) t
    refine XS.l2i X4.here hx rfl (hb hby at_33) rfl ?_
    show Steps p.tables e below (T4.setTop (mkF m 34 #[.val (.long q0), .second, .val (.long q1), .second, .val (.int p2), .val (.int p3), .val (.int p4), .val (.int v8), .val (.ref b12), .unset, .unset, .unset, .unset, .unset] [(.int (((q1.toUInt64 >>> ((48 : Int32) &&& 0x3f).toInt64.toUInt64).toInt64).toInt32)), (.int (1 : Int32)), (.ref b12)])) t
    refine XS.i2b X4.here hx rfl (hb hby at_34) rfl ?_
    show Steps p.tables e below (T4.setTop (mkF m 35 #[.val (.long q0), .second, .val (.long q1), .second, .val (.int p2), .val (.int p3), .val (.int p4), .val (.int v8), .val (.ref b12), .unset, .unset, .unset, .unset, .unset] [(.int ((((q1.toUInt64 >>> ((48 : Int32) &&& 0x3f).toInt64.toUInt64).toInt64).toInt32).toInt8.toInt32)), (.int (1 : Int32)), (.ref b12)])) t
    refine st5 _ ?_
    show Steps p.tables e below (T5.setTop (mkF m 36 #[.val (.long q0), .second, .val (.long q1), .second, .val (.int p2), .val (.int p3), .val (.int p4), .val (.int v8), .val (.ref b12), .unset, .unset, .unset, .unset, .unset] [])) t
    refine XS.aload X5.here hx rfl (hb hby at_36) rfl rfl ?_
    show Steps p.tables e below (T5.setTop (mkF m 38 #[.val (.long q0), .second, .val (.long q1), .second, .val (.int p2), .val (.int p3), .val (.int p4), .val (.int v8), .val (.ref b12), .unset, .unset, .unset, .unset, .unset] [(.ref b12)])) t
    refine XS.iconst X5.here hx rfl (hb hby at_38) ?_
    show Steps p.tables e below (T5.setTop (mkF m 39 #[.val (.long q0), .second, .val (.long q1), .second, .val (.int p2), .val (.int p3), .val (.int p4), .val (.int v8), .val (.ref b12), .unset, .unset, .unset, .unset, .unset] [(.int (2 : Int32)), (.ref b12)])) t
    refine XS.lloadN X5.here hx rfl (hb hby at_39) rfl ?_
    show Steps p.tables e below (T5.setTop (mkF m 40 #[.val (.long q0), .second, .val (.long q1), .second, .val (.int p2), .val (.int p3), .val (.int p4), .val (.int v8), .val (.ref b12), .unset, .unset, .unset, .unset, .unset] [(.long q1), (.int (2 : Int32)), (.ref b12)])) t
    refine XS.bipush X5.here hx rfl (hb hby at_40) ?_
    show Steps p.tables e below (T5.setTop (mkF m 42 #[.val (.long q0), .second, .val (.long q1), .second, .val (.int p2), .val (.int p3), .val (.int p4), .val (.int v8), .val (.ref b12), .unset, .unset, .unset, .unset, .unset] [(.int (40 : Int32)), (.long q1), (.int (2 : Int32)), (.ref b12)])) t
    refine XS.lushr X5.here hx rfl (hb hby at_42) rfl ?_
    show Steps p.tables e below (T5.setTop (mkF m 43 #[.val (.long q0), .second, .val (.long q1), .second, .val (.int p2), .val (.int p3), .val (.int p4), .val (.int v8), .val (.ref b12), .unset, .unset, .unset, .unset, .unset] [(.long ((q1.toUInt64 >>> ((40 : Int32) &&& 0x3f).toInt64.toUInt64).toInt64)), (.int (2 : Int32)), (.ref b12)])) t
    refine XS.l2i X5.here hx rfl (hb hby at_43) rfl ?_
    show Steps p.tables e below (T5.setTop (mkF m 44 #[.val (.long q0), .second, .val (.long q1), .second, .val (.int p2), .val (.int p3), .val (.int p4), .val (.int v8), .val (.ref b12), .unset, .unset, .unset, .unset, .unset] [(.int (((q1.toUInt64 >>> ((40 : Int32) &&& 0x3f).toInt64.toUInt64).toInt64).toInt32)), (.int (2 : Int32)), (.ref b12)])) t
    refine XS.i2b X5.here hx rfl (hb hby at_44) rfl ?_
    show Steps p.tables e below (T5.setTop (mkF m 45 #[.val (.long q0), .second, .val (.long q1), .second, .val (.int p2), .val (.int p3), .val (.int p4), .val (.int v8), .val (.ref b12), .unset, .unset, .unset, .unset, .unset] [(.int ((((q1.toUInt64 >>> ((40 : Int32) &&& 0x3f).toInt64.toUInt64).toInt64).toInt32).toInt8.toInt32)), (.int (2 : Int32)), (.ref b12)])) t
    refine st6 _ ?_
    show Steps p.tables e below (T6.setTop (mkF m 46 #[.val (.long q0), .second, .val (.long q1), .second, .val (.int p2), .val (.int p3), .val (.int p4), .val (.int v8), .val (.ref b12), .unset, .unset, .unset, .unset, .unset] [])) t
    refine XS.aload X6.here hx rfl (hb hby at_46) rfl rfl ?_
    show Steps p.tables e below (T6.setTop (mkF m 48 #[.val (.long q0), .second, .val (.long q1), .second, .val (.int p2), .val (.int p3), .val (.int p4), .val (.int v8), .val (.ref b12), .unset, .unset, .unset, .unset, .unset] [(.ref b12)])) t
    refine XS.iconst X6.here hx rfl (hb hby at_48) ?_
    show Steps p.tables e below (T6.setTop (mkF m 49 #[.val (.long q0), .second, .val (.long q1), .second, .val (.int p2), .val (.int p3), .val (.int p4), .val (.int v8), .val (.ref b12), .unset, .unset, .unset, .unset, .unset] [(.int (3 : Int32)), (.ref b12)])) t
    refine XS.lloadN X6.here hx rfl (hb hby at_49) rfl ?_
    show Steps p.tables e below (T6.setTop (mkF m 50 #[.val (.long q0), .second, .val (.long q1), .second, .val (.int p2), .val (.int p3), .val (.int p4), .val (.int v8), .val (.ref b12), .unset, .unset, .unset, .unset, .unset] [(.long q1), (.int (3 : Int32)), (.ref b12)])) t
    refine XS.bipush X6.here hx rfl (hb hby at_50) ?_
    show Steps p.tables e below (T6.setTop (mkF m 52 #[.val (.long q0), .second, .val (.long q1), .second, .val (.int p2), .val (.int p3), .val (.int p4), .val (.int v8), .val (.ref b12), .unset, .unset, .unset, .unset, .unset] [(.int (32 : Int32)), (.long q1), (.int (3 : Int32)), (.ref b12)])) t
    refine XS.lushr X6.here hx rfl (hb hby at_52) rfl ?_
    show Steps p.tables e below (T6.setTop (mkF m 53 #[.val (.long q0), .second, .val (.long q1), .second, .val (.int p2), .val (.int p3), .val (.int p4), .val (.int v8), .val (.ref b12), .unset, .unset, .unset, .unset, .unset] [(.long ((q1.toUInt64 >>> ((32 : Int32) &&& 0x3f).toInt64.toUInt64).toInt64)), (.int (3 : Int32)), (.ref b12)])) t
    refine XS.l2i X6.here hx rfl (hb hby at_53) rfl ?_
    show Steps p.tables e below (T6.setTop (mkF m 54 #[.val (.long q0), .second, .val (.long q1), .second, .val (.int p2), .val (.int p3), .val (.int p4), .val (.int v8), .val (.ref b12), .unset, .unset, .unset, .unset, .unset] [(.int (((q1.toUInt64 >>> ((32 : Int32) &&& 0x3f).toInt64.toUInt64).toInt64).toInt32)), (.int (3 : Int32)), (.ref b12)])) t
    refine XS.i2b X6.here hx rfl (hb hby at_54) rfl ?_
    show Steps p.tables e below (T6.setTop (mkF m 55 #[.val (.long q0), .second, .val (.long q1), .second, .val (.int p2), .val (.int p3), .val (.int p4), .val (.int v8), .val (.ref b12), .unset, .unset, .unset, .unset, .unset] [(.int ((((q1.toUInt64 >>> ((32 : Int32) &&& 0x3f).toInt64.toUInt64).toInt64).toInt32).toInt8.toInt32)), (.int (3 : Int32)), (.ref b12)])) t
    refine st7 _ ?_
    show Steps p.tables e below (T7.setTop (mkF m 56 #[.val (.long q0), .second, .val (.long q1), .second, .val (.int p2), .val (.int p3), .val (.int p4), .val (.int v8), .val (.ref b12), .unset, .unset, .unset, .unset, .unset] [])) t
    refine XS.aload X7.here hx rfl (hb hby at_56) rfl rfl ?_
    show Steps p.tables e below (T7.setTop (mkF m 58 #[.val (.long q0), .second, .val (.long q1), .second, .val (.int p2), .val (.int p3), .val (.int p4), .val (.int v8), .val (.ref b12), .unset, .unset, .unset, .unset, .unset] [(.ref b12)])) t
    refine XS.iconst X7.here hx rfl (hb hby at_58) ?_
    show Steps p.tables e below (T7.setTop (mkF m 59 #[.val (.long q0), .second, .val (.long q1), .second, .val (.int p2), .val (.int p3), .val (.int p4), .val (.int v8), .val (.ref b12), .unset, .unset, .unset, .unset, .unset] [(.int (4 : Int32)), (.ref b12)])) t
    refine XS.lloadN X7.here hx rfl (hb hby at_59) rfl ?_
    show Steps p.tables e below (T7.setTop (mkF m 60 #[.val (.long q0), .second, .val (.long q1), .second, .val (.int p2), .val (.int p3), .val (.int p4), .val (.int v8), .val (.ref b12), .unset, .unset, .unset, .unset, .unset] [(.long q1), (.int (4 : Int32)), (.ref b12)])) t
    refine XS.bipush X7.here hx rfl (hb hby at_60) ?_
    show Steps p.tables e below (T7.setTop (mkF m 62 #[.val (.long q0), .second, .val (.long q1), .second, .val (.int p2), .val (.int p3), .val (.int p4), .val (.int v8), .val (.ref b12), .unset, .unset, .unset, .unset, .unset] [(.int (24 : Int32)), (.long q1), (.int (4 : Int32)), (.ref b12)])) t
    refine XS.lushr X7.here hx rfl (hb hby at_62) rfl ?_
    show Steps p.tables e below (T7.setTop (mkF m 63 #[.val (.long q0), .second, .val (.long q1), .second, .val (.int p2), .val (.int p3), .val (.int p4), .val (.int v8), .val (.ref b12), .unset, .unset, .unset, .unset, .unset] [(.long ((q1.toUInt64 >>> ((24 : Int32) &&& 0x3f).toInt64.toUInt64).toInt64)), (.int (4 : Int32)), (.ref b12)])) t
    refine XS.l2i X7.here hx rfl (hb hby at_63) rfl ?_
    show Steps p.tables e below (T7.setTop (mkF m 64 #[.val (.long q0), .second, .val (.long q1), .second, .val (.int p2), .val (.int p3), .val (.int p4), .val (.int v8), .val (.ref b12), .unset, .unset, .unset, .unset, .unset] [(.int (((q1.toUInt64 >>> ((24 : Int32) &&& 0x3f).toInt64.toUInt64).toInt64).toInt32)), (.int (4 : Int32)), (.ref b12)])) t
    refine XS.i2b X7.here hx rfl (hb hby at_64) rfl ?_
    show Steps p.tables e below (T7.setTop (mkF m 65 #[.val (.long q0), .second, .val (.long q1), .second, .val (.int p2), .val (.int p3), .val (.int p4), .val (.int v8), .val (.ref b12), .unset, .unset, .unset, .unset, .unset] [(.int ((((q1.toUInt64 >>> ((24 : Int32) &&& 0x3f).toInt64.toUInt64).toInt64).toInt32).toInt8.toInt32)), (.int (4 : Int32)), (.ref b12)])) t
    refine st8 _ ?_
    show Steps p.tables e below (T8.setTop (mkF m 66 #[.val (.long q0), .second, .val (.long q1), .second, .val (.int p2), .val (.int p3), .val (.int p4), .val (.int v8), .val (.ref b12), .unset, .unset, .unset, .unset, .unset] [])) t
    refine XS.aload X8.here hx rfl (hb hby at_66) rfl rfl ?_
    show Steps p.tables e below (T8.setTop (mkF m 68 #[.val (.long q0), .second, .val (.long q1), .second, .val (.int p2), .val (.int p3), .val (.int p4), .val (.int v8), .val (.ref b12), .unset, .unset, .unset, .unset, .unset] [(.ref b12)])) t
    refine XS.iconst X8.here hx rfl (hb hby at_68) ?_
    show Steps p.tables e below (T8.setTop (mkF m 69 #[.val (.long q0), .second, .val (.long q1), .second, .val (.int p2), .val (.int p3), .val (.int p4), .val (.int v8), .val (.ref b12), .unset, .unset, .unset, .unset, .unset] [(.int (5 : Int32)), (.ref b12)])) t
    refine XS.lloadN X8.here hx rfl (hb hby at_69) rfl ?_
    show Steps p.tables e below (T8.setTop (mkF m 70 #[.val (.long q0), .second, .val (.long q1), .second, .val (.int p2), .val (.int p3), .val (.int p4), .val (.int v8), .val (.ref b12), .unset, .unset, .unset, .unset, .unset] [(.long q1), (.int (5 : Int32)), (.ref b12)])) t
    refine XS.bipush X8.here hx rfl (hb hby at_70) ?_
    show Steps p.tables e below (T8.setTop (mkF m 72 #[.val (.long q0), .second, .val (.long q1), .second, .val (.int p2), .val (.int p3), .val (.int p4), .val (.int v8), .val (.ref b12), .unset, .unset, .unset, .unset, .unset] [(.int (16 : Int32)), (.long q1), (.int (5 : Int32)), (.ref b12)])) t
    refine XS.lushr X8.here hx rfl (hb hby at_72) rfl ?_
    show Steps p.tables e below (T8.setTop (mkF m 73 #[.val (.long q0), .second, .val (.long q1), .second, .val (.int p2), .val (.int p3), .val (.int p4), .val (.int v8), .val (.ref b12), .unset, .unset, .unset, .unset, .unset] [(.long ((q1.toUInt64 >>> ((16 : Int32) &&& 0x3f).toInt64.toUInt64).toInt64)), (.int (5 : Int32)), (.ref b12)])) t
    refine XS.l2i X8.here hx rfl (hb hby at_73) rfl ?_
    show Steps p.tables e below (T8.setTop (mkF m 74 #[.val (.long q0), .second, .val (.long q1), .second, .val (.int p2), .val (.int p3), .val (.int p4), .val (.int v8), .val (.ref b12), .unset, .unset, .unset, .unset, .unset] [(.int (((q1.toUInt64 >>> ((16 : Int32) &&& 0x3f).toInt64.toUInt64).toInt64).toInt32)), (.int (5 : Int32)), (.ref b12)])) t
    refine XS.i2b X8.here hx rfl (hb hby at_74) rfl ?_
    show Steps p.tables e below (T8.setTop (mkF m 75 #[.val (.long q0), .second, .val (.long q1), .second, .val (.int p2), .val (.int p3), .val (.int p4), .val (.int v8), .val (.ref b12), .unset, .unset, .unset, .unset, .unset] [(.int ((((q1.toUInt64 >>> ((16 : Int32) &&& 0x3f).toInt64.toUInt64).toInt64).toInt32).toInt8.toInt32)), (.int (5 : Int32)), (.ref b12)])) t
    refine st9 _ ?_
    show Steps p.tables e below (T9.setTop (mkF m 76 #[.val (.long q0), .second, .val (.long q1), .second, .val (.int p2), .val (.int p3), .val (.int p4), .val (.int v8), .val (.ref b12), .unset, .unset, .unset, .unset, .unset] [])) t
    refine XS.aload X9.here hx rfl (hb hby at_76) rfl rfl ?_
    show Steps p.tables e below (T9.setTop (mkF m 78 #[.val (.long q0), .second, .val (.long q1), .second, .val (.int p2), .val (.int p3), .val (.int p4), .val (.int v8), .val (.ref b12), .unset, .unset, .unset, .unset, .unset] [(.ref b12)])) t
    refine XS.bipush X9.here hx rfl (hb hby at_78) ?_
    show Steps p.tables e below (T9.setTop (mkF m 80 #[.val (.long q0), .second, .val (.long q1), .second, .val (.int p2), .val (.int p3), .val (.int p4), .val (.int v8), .val (.ref b12), .unset, .unset, .unset, .unset, .unset] [(.int (6 : Int32)), (.ref b12)])) t
    refine XS.lloadN X9.here hx rfl (hb hby at_80) rfl ?_
    show Steps p.tables e below (T9.setTop (mkF m 81 #[.val (.long q0), .second, .val (.long q1), .second, .val (.int p2), .val (.int p3), .val (.int p4), .val (.int v8), .val (.ref b12), .unset, .unset, .unset, .unset, .unset] [(.long q1), (.int (6 : Int32)), (.ref b12)])) t
    refine XS.bipush X9.here hx rfl (hb hby at_81) ?_
    show Steps p.tables e below (T9.setTop (mkF m 83 #[.val (.long q0), .second, .val (.long q1), .second, .val (.int p2), .val (.int p3), .val (.int p4), .val (.int v8), .val (.ref b12), .unset, .unset, .unset, .unset, .unset] [(.int (8 : Int32)), (.long q1), (.int (6 : Int32)), (.ref b12)])) t
    refine XS.lushr X9.here hx rfl (hb hby at_83) rfl ?_
    show Steps p.tables e below (T9.setTop (mkF m 84 #[.val (.long q0), .second, .val (.long q1), .second, .val (.int p2), .val (.int p3), .val (.int p4), .val (.int v8), .val (.ref b12), .unset, .unset, .unset, .unset, .unset] [(.long ((q1.toUInt64 >>> ((8 : Int32) &&& 0x3f).toInt64.toUInt64).toInt64)), (.int (6 : Int32)), (.ref b12)])) t
    refine XS.l2i X9.here hx rfl (hb hby at_84) rfl ?_
    show Steps p.tables e below (T9.setTop (mkF m 85 #[.val (.long q0), .second, .val (.long q1), .second, .val (.int p2), .val (.int p3), .val (.int p4), .val (.int v8), .val (.ref b12), .unset, .unset, .unset, .unset, .unset] [(.int (((q1.toUInt64 >>> ((8 : Int32) &&& 0x3f).toInt64.toUInt64).toInt64).toInt32)), (.int (6 : Int32)), (.ref b12)])) t
    refine XS.i2b X9.here hx rfl (hb hby at_85) rfl ?_
    show Steps p.tables e below (T9.setTop (mkF m 86 #[.val (.long q0), .second, .val (.long q1), .second, .val (.int p2), .val (.int p3), .val (.int p4), .val (.int v8), .val (.ref b12), .unset, .unset, .unset, .unset, .unset] [(.int ((((q1.toUInt64 >>> ((8 : Int32) &&& 0x3f).toInt64.toUInt64).toInt64).toInt32).toInt8.toInt32)), (.int (6 : Int32)), (.ref b12)])) t
    refine st10 _ ?_
    show Steps p.tables e below (T10.setTop (mkF m 87 #[.val (.long q0), .second, .val (.long q1), .second, .val (.int p2), .val (.int p3), .val (.int p4), .val (.int v8), .val (.ref b12), .unset, .unset, .unset, .unset, .unset] [])) t
    refine XS.aload X10.here hx rfl (hb hby at_87) rfl rfl ?_
    show Steps p.tables e below (T10.setTop (mkF m 89 #[.val (.long q0), .second, .val (.long q1), .second, .val (.int p2), .val (.int p3), .val (.int p4), .val (.int v8), .val (.ref b12), .unset, .unset, .unset, .unset, .unset] [(.ref b12)])) t
    refine XS.bipush X10.here hx rfl (hb hby at_89) ?_
    show Steps p.tables e below (T10.setTop (mkF m 91 #[.val (.long q0), .second, .val (.long q1), .second, .val (.int p2), .val (.int p3), .val (.int p4), .val (.int v8), .val (.ref b12), .unset, .unset, .unset, .unset, .unset] [(.int (7 : Int32)), (.ref b12)])) t
    refine XS.lloadN X10.here hx rfl (hb hby at_91) rfl ?_
    show Steps p.tables e below (T10.setTop (mkF m 92 #[.val (.long q0), .second, .val (.long q1), .second, .val (.int p2), .val (.int p3), .val (.int p4), .val (.int v8), .val (.ref b12), .unset, .unset, .unset, .unset, .unset] [(.long q1), (.int (7 : Int32)), (.ref b12)])) t
    refine XS.l2i X10.here hx rfl (hb hby at_92) rfl ?_
    show Steps p.tables e below (T10.setTop (mkF m 93 #[.val (.long q0), .second, .val (.long q1), .second, .val (.int p2), .val (.int p3), .val (.int p4), .val (.int v8), .val (.ref b12), .unset, .unset, .unset, .unset, .unset] [(.int (q1.toInt32)), (.int (7 : Int32)), (.ref b12)])) t
    refine XS.i2b X10.here hx rfl (hb hby at_93) rfl ?_
    show Steps p.tables e below (T10.setTop (mkF m 94 #[.val (.long q0), .second, .val (.long q1), .second, .val (.int p2), .val (.int p3), .val (.int p4), .val (.int v8), .val (.ref b12), .unset, .unset, .unset, .unset, .unset] [(.int ((q1.toInt32).toInt8.toInt32)), (.int (7 : Int32)), (.ref b12)])) t
    refine st11 _ ?_
    show Steps p.tables e below (T11.setTop (mkF m 95 #[.val (.long q0), .second, .val (.long q1), .second, .val (.int p2), .val (.int p3), .val (.int p4), .val (.int v8), .val (.ref b12), .unset, .unset, .unset, .unset, .unset] [])) t
    refine XS.aload X11.here hx rfl (hb hby at_95) rfl rfl ?_
    show Steps p.tables e below (T11.setTop (mkF m 97 #[.val (.long q0), .second, .val (.long q1), .second, .val (.int p2), .val (.int p3), .val (.int p4), .val (.int v8), .val (.ref b12), .unset, .unset, .unset, .unset, .unset] [(.ref b12)])) t
    refine XS.bipush X11.here hx rfl (hb hby at_97) ?_
    show Steps p.tables e below (T11.setTop (mkF m 99 #[.val (.long q0), .second, .val (.long q1), .second, .val (.int p2), .val (.int p3), .val (.int p4), .val (.int v8), .val (.ref b12), .unset, .unset, .unset, .unset, .unset] [(.int (8 : Int32)), (.ref b12)])) t
    refine XS.lloadN X11.here hx rfl (hb hby at_99) rfl ?_
    show Steps p.tables e below (T11.setTop (mkF m 100 #[.val (.long q0), .second, .val (.long q1), .second, .val (.int p2), .val (.int p3), .val (.int p4), .val (.int v8), .val (.ref b12), .unset, .unset, .unset, .unset, .unset] [(.long q1), (.int (8 : Int32)), (.ref b12)])) t
    refine XS.bipush X11.here hx rfl (hb hby at_100) ?_
    show Steps p.tables e below (T11.setTop (mkF m 102 #[.val (.long q0), .second, .val (.long q1), .second, .val (.int p2), .val (.int p3), .val (.int p4), .val (.int v8), .val (.ref b12), .unset, .unset, .unset, .unset, .unset] [(.int (56 : Int32)), (.long q1), (.int (8 : Int32)), (.ref b12)])) t
    refine XS.lushr X11.here hx rfl (hb hby at_102) rfl ?_
    show Steps p.tables e below (T11.setTop (mkF m 103 #[.val (.long q0), .second, .val (.long q1), .second, .val (.int p2), .val (.int p3), .val (.int p4), .val (.int v8), .val (.ref b12), .unset, .unset, .unset, .unset, .unset] [(.long ((q1.toUInt64 >>> ((56 : Int32) &&& 0x3f).toInt64.toUInt64).toInt64)), (.int (8 : Int32)), (.ref b12)])) t
    refine X11.ldc2Long hx hown (mvT hZ (hw _ (List.mem_of_getElem? (i := 2) rfl))) (g := (mkF m 103 #[.val (.long q0), .second, .val (.long q1), .second, .val (.int p2), .val (.int p3), .val (.int p4), .val (.int v8), .val (.ref b12), .unset, .unset, .unset, .unset, .unset] [(.long ((q1.toUInt64 >>> ((56 : Int32) &&& 0x3f).toInt64.toUInt64).toInt64)), (.int (8 : Int32)), (.ref b12)])) rfl (hb hby at_103) _ ?_
    show Steps p.tables e below (T11.setTop (mkF m 106 #[.val (.long q0), .second, .val (.long q1), .second, .val (.int p2), .val (.int p3), .val (.int p4), .val (.int v8), .val (.ref b12), .unset, .unset, .unset, .unset, .unset] [(.long (-1 : Int64)), (.long ((q1.toUInt64 >>> ((56 : Int32) &&& 0x3f).toInt64.toUInt64).toInt64)), (.int (8 : Int32)), (.ref b12)])) t
    refine XS.lxor X11.here hx rfl (hb hby at_106) rfl ?_
    show Steps p.tables e below (T11.setTop (mkF m 107 #[.val (.long q0), .second, .val (.long q1), .second, .val (.int p2), .val (.int p3), .val (.int p4), .val (.int v8), .val (.ref b12), .unset, .unset, .unset, .unset, .unset] [(.long (((q1.toUInt64 >>> ((56 : Int32) &&& 0x3f).toInt64.toUInt64).toInt64) ^^^ (-1 : Int64))), (.int (8 : Int32)), (.ref b12)])) t
    refine XS.l2i X11.here hx rfl (hb hby at_107) rfl ?_
    show Steps p.tables e below (T11.setTop (mkF m 108 #[.val (.long q0), .second, .val (.long q1), .second, .val (.int p2), .val (.int p3), .val (.int p4), .val (.int v8), .val (.ref b12), .unset, .unset, .unset, .unset, .unset] [(.int ((((q1.toUInt64 >>> ((56 : Int32) &&& 0x3f).toInt64.toUInt64).toInt64) ^^^ (-1 : Int64)).toInt32)), (.int (8 : Int32)), (.ref b12)])) t
    refine XS.i2b X11.here hx rfl (hb hby at_108) rfl ?_
    show Steps p.tables e below (T11.setTop (mkF m 109 #[.val (.long q0), .second, .val (.long q1), .second, .val (.int p2), .val (.int p3), .val (.int p4), .val (.int v8), .val (.ref b12), .unset, .unset, .unset, .unset, .unset] [(.int (((((q1.toUInt64 >>> ((56 : Int32) &&& 0x3f).toInt64.toUInt64).toInt64) ^^^ (-1 : Int64)).toInt32).toInt8.toInt32)), (.int (8 : Int32)), (.ref b12)])) t
    refine st12 _ ?_
    show Steps p.tables e below (T12.setTop (mkF m 110 #[.val (.long q0), .second, .val (.long q1), .second, .val (.int p2), .val (.int p3), .val (.int p4), .val (.int v8), .val (.ref b12), .unset, .unset, .unset, .unset, .unset] [])) t
    refine XS.aload X12.here hx rfl (hb hby at_110) rfl rfl ?_
    show Steps p.tables e below (T12.setTop (mkF m 112 #[.val (.long q0), .second, .val (.long q1), .second, .val (.int p2), .val (.int p3), .val (.int p4), .val (.int v8), .val (.ref b12), .unset, .unset, .unset, .unset, .unset] [(.ref b12)])) t
    refine XS.bipush X12.here hx rfl (hb hby at_112) ?_
    show Steps p.tables e below (T12.setTop (mkF m 114 #[.val (.long q0), .second, .val (.long q1), .second, .val (.int p2), .val (.int p3), .val (.int p4), .val (.int v8), .val (.ref b12), .unset, .unset, .unset, .unset, .unset] [(.int (9 : Int32)), (.ref b12)])) t
    refine XS.lloadN X12.here hx rfl (hb hby at_114) rfl ?_
    show Steps p.tables e below (T12.setTop (mkF m 115 #[.val (.long q0), .second, .val (.long q1), .second, .val (.int p2), .val (.int p3), .val (.int p4), .val (.int v8), .val (.ref b12), .unset, .unset, .unset, .unset, .unset] [(.long q1), (.int (9 : Int32)), (.ref b12)])) t
    refine XS.bipush X12.here hx rfl (hb hby at_115) ?_
    show Steps p.tables e below (T12.setTop (mkF m 117 #[.val (.long q0), .second, .val (.long q1), .second, .val (.int p2), .val (.int p3), .val (.int p4), .val (.int v8), .val (.ref b12), .unset, .unset, .unset, .unset, .unset] [(.int (48 : Int32)), (.long q1), (.int (9 : Int32)), (.ref b12)])) t
    refine XS.lushr X12.here hx rfl (hb hby at_117) rfl ?_
    show Steps p.tables e below (T12.setTop (mkF m 118 #[.val (.long q0), .second, .val (.long q1), .second, .val (.int p2), .val (.int p3), .val (.int p4), .val (.int v8), .val (.ref b12), .unset, .unset, .unset, .unset, .unset] [(.long ((q1.toUInt64 >>> ((48 : Int32) &&& 0x3f).toInt64.toUInt64).toInt64)), (.int (9 : Int32)), (.ref b12)])) t
    refine X12.ldc2Long hx hown (mvT hZ (hw _ (List.mem_of_getElem? (i := 2) rfl))) (g := (mkF m 118 #[.val (.long q0), .second, .val (.long q1), .second, .val (.int p2), .val (.int p3), .val (.int p4), .val (.int v8), .val (.ref b12), .unset, .unset, .unset, .unset, .unset] [(.long ((q1.toUInt64 >>> ((48 : Int32) &&& 0x3f).toInt64.toUInt64).toInt64)), (.int (9 : Int32)), (.ref b12)])) rfl (hb hby at_118) _ ?_
    show Steps p.tables e below (T12.setTop (mkF m 121 #[.val (.long q0), .second, .val (.long q1), .second, .val (.int p2), .val (.int p3), .val (.int p4), .val (.int v8), .val (.ref b12), .unset, .unset, .unset, .unset, .unset] [(.long (-1 : Int64)), (.long ((q1.toUInt64 >>> ((48 : Int32) &&& 0x3f).toInt64.toUInt64).toInt64)), (.int (9 : Int32)), (.ref b12)])) t
    refine XS.lxor X12.here hx rfl (hb hby at_121) rfl ?_
    show Steps p.tables e below (T12.setTop (mkF m 122 #[.val (.long q0), .second, .val (.long q1), .second, .val (.int p2), .val (.int p3), .val (.int p4), .val (.int v8), .val (.ref b12), .unset, .unset, .unset, .unset, .unset] [(.long (((q1.toUInt64 >>> ((48 : Int32) &&& 0x3f).toInt64.toUInt64).toInt64) ^^^ (-1 : Int64))), (.int (9 : Int32)), (.ref b12)])) t
    refine XS.l2i X12.here hx rfl (hb hby at_122) rfl ?_
    show Steps p.tables e below (T12.setTop (mkF m 123 #[.val (.long q0), .second, .val (.long q1), .second, .val (.int p2), .val (.int p3), .val (.int p4), .val (.int v8), .val (.ref b12), .unset, .unset, .unset, .unset, .unset] [(.int ((((q1.toUInt64 >>> ((48 : Int32) &&& 0x3f).toInt64.toUInt64).toInt64) ^^^ (-1 : Int64)).toInt32)), (.int (9 : Int32)), (.ref b12)])) t
    refine XS.i2b X12.here hx rfl (hb hby at_123) rfl ?_
    show Steps p.tables e below (T12.setTop (mkF m 124 #[.val (.long q0), .second, .val (.long q1), .second, .val (.int p2), .val (.int p3), .val (.int p4), .val (.int v8), .val (.ref b12), .unset, .unset, .unset, .unset, .unset] [(.int (((((q1.toUInt64 >>> ((48 : Int32) &&& 0x3f).toInt64.toUInt64).toInt64) ^^^ (-1 : Int64)).toInt32).toInt8.toInt32)), (.int (9 : Int32)), (.ref b12)])) t
    refine st13 _ ?_
    show Steps p.tables e below (T13.setTop (mkF m 125 #[.val (.long q0), .second, .val (.long q1), .second, .val (.int p2), .val (.int p3), .val (.int p4), .val (.int v8), .val (.ref b12), .unset, .unset, .unset, .unset, .unset] [])) t
    refine XS.aload X13.here hx rfl (hb hby at_125) rfl rfl ?_
    show Steps p.tables e below (T13.setTop (mkF m 127 #[.val (.long q0), .second, .val (.long q1), .second, .val (.int p2), .val (.int p3), .val (.int p4), .val (.int v8), .val (.ref b12), .unset, .unset, .unset, .unset, .unset] [(.ref b12)])) t
    refine XS.bipush X13.here hx rfl (hb hby at_127) ?_
    show Steps p.tables e below (T13.setTop (mkF m 129 #[.val (.long q0), .second, .val (.long q1), .second, .val (.int p2), .val (.int p3), .val (.int p4), .val (.int v8), .val (.ref b12), .unset, .unset, .unset, .unset, .unset] [(.int (10 : Int32)), (.ref b12)])) t
    refine XS.lloadN X13.here hx rfl (hb hby at_129) rfl ?_
    show Steps p.tables e below (T13.setTop (mkF m 130 #[.val (.long q0), .second, .val (.long q1), .second, .val (.int p2), .val (.int p3), .val (.int p4), .val (.int v8), .val (.ref b12), .unset, .unset, .unset, .unset, .unset] [(.long q1), (.int (10 : Int32)), (.ref b12)])) t
    refine XS.bipush X13.here hx rfl (hb hby at_130) ?_
    show Steps p.tables e below (T13.setTop (mkF m 132 #[.val (.long q0), .second, .val (.long q1), .second, .val (.int p2), .val (.int p3), .val (.int p4), .val (.int v8), .val (.ref b12), .unset, .unset, .unset, .unset, .unset] [(.int (40 : Int32)), (.long q1), (.int (10 : Int32)), (.ref b12)])) t
    refine XS.lushr X13.here hx rfl (hb hby at_132) rfl ?_
    show Steps p.tables e below (T13.setTop (mkF m 133 #[.val (.long q0), .second, .val (.long q1), .second, .val (.int p2), .val (.int p3), .val (.int p4), .val (.int v8), .val (.ref b12), .unset, .unset, .unset, .unset, .unset] [(.long ((q1.toUInt64 >>> ((40 : Int32) &&& 0x3f).toInt64.toUInt64).toInt64)), (.int (10 : Int32)), (.ref b12)])) t
    refine X13.ldc2Long hx hown (mvT hZ (hw _ (List.mem_of_getElem? (i := 2) rfl))) (g := (mkF m 133 #[.val (.long q0), .second, .val (.long q1), .second, .val (.int p2), .val (.int p3), .val (.int p4), .val (.int v8), .val (.ref b12), .unset, .unset, .unset, .unset, .unset] [(.long ((q1.toUInt64 >>> ((40 : Int32) &&& 0x3f).toInt64.toUInt64).toInt64)), (.int (10 : Int32)), (.ref b12)])) rfl (hb hby at_133) _ ?_
    show Steps p.tables e below (T13.setTop (mkF m 136 #[.val (.long q0), .second, .val (.long q1), .second, .val (.int p2), .val (.int p3), .val (.int p4), .val (.int v8), .val (.ref b12), .unset, .unset, .unset, .unset, .unset] [(.long (-1 : Int64)), (.long ((q1.toUInt64 >>> ((40 : Int32) &&& 0x3f).toInt64.toUInt64).toInt64)), (.int (10 : Int32)), (.ref b12)])) t
    refine XS.lxor X13.here hx rfl (hb hby at_136) rfl ?_
    show Steps p.tables e below (T13.setTop (mkF m 137 #[.val (.long q0), .second, .val (.long q1), .second, .val (.int p2), .val (.int p3), .val (.int p4), .val (.int v8), .val (.ref b12), .unset, .unset, .unset, .unset, .unset] [(.long (((q1.toUInt64 >>> ((40 : Int32) &&& 0x3f).toInt64.toUInt64).toInt64) ^^^ (-1 : Int64))), (.int (10 : Int32)), (.ref b12)])) t
    refine XS.l2i X13.here hx rfl (hb hby at_137) rfl ?_
    show Steps p.tables e below (T13.setTop (mkF m 138 #[.val (.long q0), .second, .val (.long q1), .second, .val (.int p2), .val (.int p3), .val (.int p4), .val (.int v8), .val (.ref b12), .unset, .unset, .unset, .unset, .unset] [(.int ((((q1.toUInt64 >>> ((40 : Int32) &&& 0x3f).toInt64.toUInt64).toInt64) ^^^ (-1 : Int64)).toInt32)), (.int (10 : Int32)), (.ref b12)])) t
    refine XS.i2b X13.here hx rfl (hb hby at_138) rfl ?_
    show Steps p.tables e below (T13.setTop (mkF m 139 #[.val (.long q0), .second, .val (.long q1), .second, .val (.int p2), .val (.int p3), .val (.int p4), .val (.int v8), .val (.ref b12), .unset, .unset, .unset, .unset, .unset] [(.int (((((q1.toUInt64 >>> ((40 : Int32) &&& 0x3f).toInt64.toUInt64).toInt64) ^^^ (-1 : Int64)).toInt32).toInt8.toInt32)), (.int (10 : Int32)), (.ref b12)])) t
    refine st14 _ ?_
    show Steps p.tables e below (T14.setTop (mkF m 140 #[.val (.long q0), .second, .val (.long q1), .second, .val (.int p2), .val (.int p3), .val (.int p4), .val (.int v8), .val (.ref b12), .unset, .unset, .unset, .unset, .unset] [])) t
    refine XS.aload X14.here hx rfl (hb hby at_140) rfl rfl ?_
    show Steps p.tables e below (T14.setTop (mkF m 142 #[.val (.long q0), .second, .val (.long q1), .second, .val (.int p2), .val (.int p3), .val (.int p4), .val (.int v8), .val (.ref b12), .unset, .unset, .unset, .unset, .unset] [(.ref b12)])) t
    refine XS.bipush X14.here hx rfl (hb hby at_142) ?_
    show Steps p.tables e below (T14.setTop (mkF m 144 #[.val (.long q0), .second, .val (.long q1), .second, .val (.int p2), .val (.int p3), .val (.int p4), .val (.int v8), .val (.ref b12), .unset, .unset, .unset, .unset, .unset] [(.int (11 : Int32)), (.ref b12)])) t
    refine XS.lloadN X14.here hx rfl (hb hby at_144) rfl ?_
    show Steps p.tables e below (T14.setTop (mkF m 145 #[.val (.long q0), .second, .val (.long q1), .second, .val (.int p2), .val (.int p3), .val (.int p4), .val (.int v8), .val (.ref b12), .unset, .unset, .unset, .unset, .unset] [(.long q1), (.int (11 : Int32)), (.ref b12)])) t
    refine XS.bipush X14.here hx rfl (hb hby at_145) ?_
    show Steps p.tables e below (T14.setTop (mkF m 147 #[.val (.long q0), .second, .val (.long q1), .second, .val (.int p2), .val (.int p3), .val (.int p4), .val (.int v8), .val (.ref b12), .unset, .unset, .unset, .unset, .unset] [(.int (32 : Int32)), (.long q1), (.int (11 : Int32)), (.ref b12)])) t
    refine XS.lushr X14.here hx rfl (hb hby at_147) rfl ?_
    show Steps p.tables e below (T14.setTop (mkF m 148 #[.val (.long q0), .second, .val (.long q1), .second, .val (.int p2), .val (.int p3), .val (.int p4), .val (.int v8), .val (.ref b12), .unset, .unset, .unset, .unset, .unset] [(.long ((q1.toUInt64 >>> ((32 : Int32) &&& 0x3f).toInt64.toUInt64).toInt64)), (.int (11 : Int32)), (.ref b12)])) t
    refine X14.ldc2Long hx hown (mvT hZ (hw _ (List.mem_of_getElem? (i := 2) rfl))) (g := (mkF m 148 #[.val (.long q0), .second, .val (.long q1), .second, .val (.int p2), .val (.int p3), .val (.int p4), .val (.int v8), .val (.ref b12), .unset, .unset, .unset, .unset, .unset] [(.long ((q1.toUInt64 >>> ((32 : Int32) &&& 0x3f).toInt64.toUInt64).toInt64)), (.int (11 : Int32)), (.ref b12)])) rfl (hb hby at_148) _ ?_
    show Steps p.tables e below (T14.setTop (mkF m 151 #[.val (.long q0), .second, .val (.long q1), .second, .val (.int p2), .val (.int p3), .val (.int p4), .val (.int v8), .val (.ref b12), .unset, .unset, .unset, .unset, .unset] [(.long (-1 : Int64)), (.long ((q1.toUInt64 >>> ((32 : Int32) &&& 0x3f).toInt64.toUInt64).toInt64)), (.int (11 : Int32)), (.ref b12)])) t
    refine XS.lxor X14.here hx rfl (hb hby at_151) rfl ?_
    show Steps p.tables e below (T14.setTop (mkF m 152 #[.val (.long q0), .second, .val (.long q1), .second, .val (.int p2), .val (.int p3), .val (.int p4), .val (.int v8), .val (.ref b12), .unset, .unset, .unset, .unset, .unset] [(.long (((q1.toUInt64 >>> ((32 : Int32) &&& 0x3f).toInt64.toUInt64).toInt64) ^^^ (-1 : Int64))), (.int (11 : Int32)), (.ref b12)])) t
    refine XS.l2i X14.here hx rfl (hb hby at_152) rfl ?_
    show Steps p.tables e below (T14.setTop (mkF m 153 #[.val (.long q0), .second, .val (.long q1), .second, .val (.int p2), .val (.int p3), .val (.int p4), .val (.int v8), .val (.ref b12), .unset, .unset, .unset, .unset, .unset] [(.int ((((q1.toUInt64 >>> ((32 : Int32) &&& 0x3f).toInt64.toUInt64).toInt64) ^^^ (-1 : Int64)).toInt32)), (.int (11 : Int32)), (.ref b12)])) t
    refine XS.i2b X14.here hx rfl (hb hby at_153) rfl ?_
    show Steps p.tables e below (T14.setTop (mkF m 154 #[.val (.long q0), .second, .val (.long q1), .second, .val (.int p2), .val (.int p3), .val (.int p4), .val (.int v8), .val (.ref b12), .unset, .unset, .unset, .unset, .unset] [(.int (((((q1.toUInt64 >>> ((32 : Int32) &&& 0x3f).toInt64.toUInt64).toInt64) ^^^ (-1 : Int64)).toInt32).toInt8.toInt32)), (.int (11 : Int32)), (.ref b12)])) t
    refine st15 _ ?_
    show Steps p.tables e below (T15.setTop (mkF m 155 #[.val (.long q0), .second, .val (.long q1), .second, .val (.int p2), .val (.int p3), .val (.int p4), .val (.int v8), .val (.ref b12), .unset, .unset, .unset, .unset, .unset] [])) t
    refine XS.aload X15.here hx rfl (hb hby at_155) rfl rfl ?_
    show Steps p.tables e below (T15.setTop (mkF m 157 #[.val (.long q0), .second, .val (.long q1), .second, .val (.int p2), .val (.int p3), .val (.int p4), .val (.int v8), .val (.ref b12), .unset, .unset, .unset, .unset, .unset] [(.ref b12)])) t
    refine XS.bipush X15.here hx rfl (hb hby at_157) ?_
    show Steps p.tables e below (T15.setTop (mkF m 159 #[.val (.long q0), .second, .val (.long q1), .second, .val (.int p2), .val (.int p3), .val (.int p4), .val (.int v8), .val (.ref b12), .unset, .unset, .unset, .unset, .unset] [(.int (12 : Int32)), (.ref b12)])) t
    refine XS.lloadN X15.here hx rfl (hb hby at_159) rfl ?_
    show Steps p.tables e below (T15.setTop (mkF m 160 #[.val (.long q0), .second, .val (.long q1), .second, .val (.int p2), .val (.int p3), .val (.int p4), .val (.int v8), .val (.ref b12), .unset, .unset, .unset, .unset, .unset] [(.long q1), (.int (12 : Int32)), (.ref b12)])) t
    refine XS.bipush X15.here hx rfl (hb hby at_160) ?_
    show Steps p.tables e below (T15.setTop (mkF m 162 #[.val (.long q0), .second, .val (.long q1), .second, .val (.int p2), .val (.int p3), .val (.int p4), .val (.int v8), .val (.ref b12), .unset, .unset, .unset, .unset, .unset] [(.int (24 : Int32)), (.long q1), (.int (12 : Int32)), (.ref b12)])) t
    refine XS.lushr X15.here hx rfl (hb hby at_162) rfl ?_
    show Steps p.tables e below (T15.setTop (mkF m 163 #[.val (.long q0), .second, .val (.long q1), .second, .val (.int p2), .val (.int p3), .val (.int p4), .val (.int v8), .val (.ref b12), .unset, .unset, .unset, .unset, .unset] [(.long ((q1.toUInt64 >>> ((24 : Int32) &&& 0x3f).toInt64.toUInt64).toInt64)), (.int (12 : Int32)), (.ref b12)])) t
    refine X15.ldc2Long hx hown (mvT hZ (hw _ (List.mem_of_getElem? (i := 2) rfl))) (g := (mkF m 163 #[.val (.long q0), .second, .val (.long q1), .second, .val (.int p2), .val (.int p3), .val (.int p4), .val (.int v8), .val (.ref b12), .unset, .unset, .unset, .unset, .unset] [(.long ((q1.toUInt64 >>> ((24 : Int32) &&& 0x3f).toInt64.toUInt64).toInt64)), (.int (12 : Int32)), (.ref b12)])) rfl (hb hby at_163) _ ?_
    show Steps p.tables e below (T15.setTop (mkF m 166 #[.val (.long q0), .second, .val (.long q1), .second, .val (.int p2), .val (.int p3), .val (.int p4), .val (.int v8), .val (.ref b12), .unset, .unset, .unset, .unset, .unset] [(.long (-1 : Int64)), (.long ((q1.toUInt64 >>> ((24 : Int32) &&& 0x3f).toInt64.toUInt64).toInt64)), (.int (12 : Int32)), (.ref b12)])) t
    refine XS.lxor X15.here hx rfl (hb hby at_166) rfl ?_
    show Steps p.tables e below (T15.setTop (mkF m 167 #[.val (.long q0), .second, .val (.long q1), .second, .val (.int p2), .val (.int p3), .val (.int p4), .val (.int v8), .val (.ref b12), .unset, .unset, .unset, .unset, .unset] [(.long (((q1.toUInt64 >>> ((24 : Int32) &&& 0x3f).toInt64.toUInt64).toInt64) ^^^ (-1 : Int64))), (.int (12 : Int32)), (.ref b12)])) t
    refine XS.l2i X15.here hx rfl (hb hby at_167) rfl ?_
    show Steps p.tables e below (T15.setTop (mkF m 168 #[.val (.long q0), .second, .val (.long q1), .second, .val (.int p2), .val (.int p3), .val (.int p4), .val (.int v8), .val (.ref b12), .unset, .unset, .unset, .unset, .unset] [(.int ((((q1.toUInt64 >>> ((24 : Int32) &&& 0x3f).toInt64.toUInt64).toInt64) ^^^ (-1 : Int64)).toInt32)), (.int (12 : Int32)), (.ref b12)])) t
    refine XS.i2b X15.here hx rfl (hb hby at_168) rfl ?_
    show Steps p.tables e below (T15.setTop (mkF m 169 #[.val (.long q0), .second, .val (.long q1), .second, .val (.int p2), .val (.int p3), .val (.int p4), .val (.int v8), .val (.ref b12), .unset, .unset, .unset, .unset, .unset] [(.int (((((q1.toUInt64 >>> ((24 : Int32) &&& 0x3f).toInt64.toUInt64).toInt64) ^^^ (-1 : Int64)).toInt32).toInt8.toInt32)), (.int (12 : Int32)), (.ref b12)])) t
    refine st16 _ ?_
    show Steps p.tables e below (T16.setTop (mkF m 170 #[.val (.long q0), .second, .val (.long q1), .second, .val (.int p2), .val (.int p3), .val (.int p4), .val (.int v8), .val (.ref b12), .unset, .unset, .unset, .unset, .unset] [])) t
    refine XS.aload X16.here hx rfl (hb hby at_170) rfl rfl ?_
    show Steps p.tables e below (T16.setTop (mkF m 172 #[.val (.long q0), .second, .val (.long q1), .second, .val (.int p2), .val (.int p3), .val (.int p4), .val (.int v8), .val (.ref b12), .unset, .unset, .unset, .unset, .unset] [(.ref b12)])) t
    refine XS.bipush X16.here hx rfl (hb hby at_172) ?_
    show Steps p.tables e below (T16.setTop (mkF m 174 #[.val (.long q0), .second, .val (.long q1), .second, .val (.int p2), .val (.int p3), .val (.int p4), .val (.int v8), .val (.ref b12), .unset, .unset, .unset, .unset, .unset] [(.int (13 : Int32)), (.ref b12)])) t
    refine XS.lloadN X16.here hx rfl (hb hby at_174) rfl ?_
    show Steps p.tables e below (T16.setTop (mkF m 175 #[.val (.long q0), .second, .val (.long q1), .second, .val (.int p2), .val (.int p3), .val (.int p4), .val (.int v8), .val (.ref b12), .unset, .unset, .unset, .unset, .unset] [(.long q1), (.int (13 : Int32)), (.ref b12)])) t
    refine XS.bipush X16.here hx rfl (hb hby at_175) ?_
    show Steps p.tables e below (T16.setTop (mkF m 177 #[.val (.long q0), .second, .val (.long q1), .second, .val (.int p2), .val (.int p3), .val (.int p4), .val (.int v8), .val (.ref b12), .unset, .unset, .unset, .unset, .unset] [(.int (16 : Int32)), (.long q1), (.int (13 : Int32)), (.ref b12)])) t
    refine XS.lushr X16.here hx rfl (hb hby at_177) rfl ?_
    show Steps p.tables e below (T16.setTop (mkF m 178 #[.val (.long q0), .second, .val (.long q1), .second, .val (.int p2), .val (.int p3), .val (.int p4), .val (.int v8), .val (.ref b12), .unset, .unset, .unset, .unset, .unset] [(.long ((q1.toUInt64 >>> ((16 : Int32) &&& 0x3f).toInt64.toUInt64).toInt64)), (.int (13 : Int32)), (.ref b12)])) t
    refine X16.ldc2Long hx hown (mvT hZ (hw _ (List.mem_of_getElem? (i := 2) rfl))) (g := (mkF m 178 #[.val (.long q0), .second, .val (.long q1), .second, .val (.int p2), .val (.int p3), .val (.int p4), .val (.int v8), .val (.ref b12), .unset, .unset, .unset, .unset, .unset] [(.long ((q1.toUInt64 >>> ((16 : Int32) &&& 0x3f).toInt64.toUInt64).toInt64)), (.int (13 : Int32)), (.ref b12)])) rfl (hb hby at_178) _ ?_
    show Steps p.tables e below (T16.setTop (mkF m 181 #[.val (.long q0), .second, .val (.long q1), .second, .val (.int p2), .val (.int p3), .val (.int p4), .val (.int v8), .val (.ref b12), .unset, .unset, .unset, .unset, .unset] [(.long (-1 : Int64)), (.long ((q1.toUInt64 >>> ((16 : Int32) &&& 0x3f).toInt64.toUInt64).toInt64)), (.int (13 : Int32)), (.ref b12)])) t
    refine XS.lxor X16.here hx rfl (hb hby at_181) rfl ?_
    show Steps p.tables e below (T16.setTop (mkF m 182 #[.val (.long q0), .second, .val (.long q1), .second, .val (.int p2), .val (.int p3), .val (.int p4), .val (.int v8), .val (.ref b12), .unset, .unset, .unset, .unset, .unset] [(.long (((q1.toUInt64 >>> ((16 : Int32) &&& 0x3f).toInt64.toUInt64).toInt64) ^^^ (-1 : Int64))), (.int (13 : Int32)), (.ref b12)])) t
    refine XS.l2i X16.here hx rfl (hb hby at_182) rfl ?_
    show Steps p.tables e below (T16.setTop (mkF m 183 #[.val (.long q0), .second, .val (.long q1), .second, .val (.int p2), .val (.int p3), .val (.int p4), .val (.int v8), .val (.ref b12), .unset, .unset, .unset, .unset, .unset] [(.int ((((q1.toUInt64 >>> ((16 : Int32) &&& 0x3f).toInt64.toUInt64).toInt64) ^^^ (-1 : Int64)).toInt32)), (.int (13 : Int32)), (.ref b12)])) t
    refine XS.i2b X16.here hx rfl (hb hby at_183) rfl ?_
    show Steps p.tables e below (T16.setTop (mkF m 184 #[.val (.long q0), .second, .val (.long q1), .second, .val (.int p2), .val (.int p3), .val (.int p4), .val (.int v8), .val (.ref b12), .unset, .unset, .unset, .unset, .unset] [(.int (((((q1.toUInt64 >>> ((16 : Int32) &&& 0x3f).toInt64.toUInt64).toInt64) ^^^ (-1 : Int64)).toInt32).toInt8.toInt32)), (.int (13 : Int32)), (.ref b12)])) t
    refine st17 _ ?_
    show Steps p.tables e below (T17.setTop (mkF m 185 #[.val (.long q0), .second, .val (.long q1), .second, .val (.int p2), .val (.int p3), .val (.int p4), .val (.int v8), .val (.ref b12), .unset, .unset, .unset, .unset, .unset] [])) t
    refine XS.aload X17.here hx rfl (hb hby at_185) rfl rfl ?_
    show Steps p.tables e below (T17.setTop (mkF m 187 #[.val (.long q0), .second, .val (.long q1), .second, .val (.int p2), .val (.int p3), .val (.int p4), .val (.int v8), .val (.ref b12), .unset, .unset, .unset, .unset, .unset] [(.ref b12)])) t
    refine XS.bipush X17.here hx rfl (hb hby at_187) ?_
    show Steps p.tables e below (T17.setTop (mkF m 189 #[.val (.long q0), .second, .val (.long q1), .second, .val (.int p2), .val (.int p3), .val (.int p4), .val (.int v8), .val (.ref b12), .unset, .unset, .unset, .unset, .unset] [(.int (14 : Int32)), (.ref b12)])) t
    refine XS.lloadN X17.here hx rfl (hb hby at_189) rfl ?_
    show Steps p.tables e below (T17.setTop (mkF m 190 #[.val (.long q0), .second, .val (.long q1), .second, .val (.int p2), .val (.int p3), .val (.int p4), .val (.int v8), .val (.ref b12), .unset, .unset, .unset, .unset, .unset] [(.long q1), (.int (14 : Int32)), (.ref b12)])) t
    refine XS.bipush X17.here hx rfl (hb hby at_190) ?_
    show Steps p.tables e below (T17.setTop (mkF m 192 #[.val (.long q0), .second, .val (.long q1), .second, .val (.int p2), .val (.int p3), .val (.int p4), .val (.int v8), .val (.ref b12), .unset, .unset, .unset, .unset, .unset] [(.int (8 : Int32)), (.long q1), (.int (14 : Int32)), (.ref b12)])) t
    refine XS.lushr X17.here hx rfl (hb hby at_192) rfl ?_
    show Steps p.tables e below (T17.setTop (mkF m 193 #[.val (.long q0), .second, .val (.long q1), .second, .val (.int p2), .val (.int p3), .val (.int p4), .val (.int v8), .val (.ref b12), .unset, .unset, .unset, .unset, .unset] [(.long ((q1.toUInt64 >>> ((8 : Int32) &&& 0x3f).toInt64.toUInt64).toInt64)), (.int (14 : Int32)), (.ref b12)])) t
    refine X17.ldc2Long hx hown (mvT hZ (hw _ (List.mem_of_getElem? (i := 2) rfl))) (g := (mkF m 193 #[.val (.long q0), .second, .val (.long q1), .second, .val (.int p2), .val (.int p3), .val (.int p4), .val (.int v8), .val (.ref b12), .unset, .unset, .unset, .unset, .unset] [(.long ((q1.toUInt64 >>> ((8 : Int32) &&& 0x3f).toInt64.toUInt64).toInt64)), (.int (14 : Int32)), (.ref b12)])) rfl (hb hby at_193) _ ?_
    show Steps p.tables e below (T17.setTop (mkF m 196 #[.val (.long q0), .second, .val (.long q1), .second, .val (.int p2), .val (.int p3), .val (.int p4), .val (.int v8), .val (.ref b12), .unset, .unset, .unset, .unset, .unset] [(.long (-1 : Int64)), (.long ((q1.toUInt64 >>> ((8 : Int32) &&& 0x3f).toInt64.toUInt64).toInt64)), (.int (14 : Int32)), (.ref b12)])) t
    refine XS.lxor X17.here hx rfl (hb hby at_196) rfl ?_
    show Steps p.tables e below (T17.setTop (mkF m 197 #[.val (.long q0), .second, .val (.long q1), .second, .val (.int p2), .val (.int p3), .val (.int p4), .val (.int v8), .val (.ref b12), .unset, .unset, .unset, .unset, .unset] [(.long (((q1.toUInt64 >>> ((8 : Int32) &&& 0x3f).toInt64.toUInt64).toInt64) ^^^ (-1 : Int64))), (.int (14 : Int32)), (.ref b12)])) t
    refine XS.l2i X17.here hx rfl (hb hby at_197) rfl ?_
    show Steps p.tables e below (T17.setTop (mkF m 198 #[.val (.long q0), .second, .val (.long q1), .second, .val (.int p2), .val (.int p3), .val (.int p4), .val (.int v8), .val (.ref b12), .unset, .unset, .unset, .unset, .unset] [(.int ((((q1.toUInt64 >>> ((8 : Int32) &&& 0x3f).toInt64.toUInt64).toInt64) ^^^ (-1 : Int64)).toInt32)), (.int (14 : Int32)), (.ref b12)])) t
    refine XS.i2b X17.here hx rfl (hb hby at_198) rfl ?_
    show Steps p.tables e below (T17.setTop (mkF m 199 #[.val (.long q0), .second, .val (.long q1), .second, .val (.int p2), .val (.int p3), .val (.int p4), .val (.int v8), .val (.ref b12), .unset, .unset, .unset, .unset, .unset] [(.int (((((q1.toUInt64 >>> ((8 : Int32) &&& 0x3f).toInt64.toUInt64).toInt64) ^^^ (-1 : Int64)).toInt32).toInt8.toInt32)), (.int (14 : Int32)), (.ref b12)])) t
    refine st18 _ ?_
    show Steps p.tables e below (T18.setTop (mkF m 200 #[.val (.long q0), .second, .val (.long q1), .second, .val (.int p2), .val (.int p3), .val (.int p4), .val (.int v8), .val (.ref b12), .unset, .unset, .unset, .unset, .unset] [])) t
    refine XS.aload X18.here hx rfl (hb hby at_200) rfl rfl ?_
    show Steps p.tables e below (T18.setTop (mkF m 202 #[.val (.long q0), .second, .val (.long q1), .second, .val (.int p2), .val (.int p3), .val (.int p4), .val (.int v8), .val (.ref b12), .unset, .unset, .unset, .unset, .unset] [(.ref b12)])) t
    refine XS.bipush X18.here hx rfl (hb hby at_202) ?_
    show Steps p.tables e below (T18.setTop (mkF m 204 #[.val (.long q0), .second, .val (.long q1), .second, .val (.int p2), .val (.int p3), .val (.int p4), .val (.int v8), .val (.ref b12), .unset, .unset, .unset, .unset, .unset] [(.int (15 : Int32)), (.ref b12)])) t
    refine XS.lloadN X18.here hx rfl (hb hby at_204) rfl ?_
    show Steps p.tables e below (T18.setTop (mkF m 205 #[.val (.long q0), .second, .val (.long q1), .second, .val (.int p2), .val (.int p3), .val (.int p4), .val (.int v8), .val (.ref b12), .unset, .unset, .unset, .unset, .unset] [(.long q1), (.int (15 : Int32)), (.ref b12)])) t
    refine X18.ldc2Long hx hown (mvT hZ (hw _ (List.mem_of_getElem? (i := 2) rfl))) (g := (mkF m 205 #[.val (.long q0), .second, .val (.long q1), .second, .val (.int p2), .val (.int p3), .val (.int p4), .val (.int v8), .val (.ref b12), .unset, .unset, .unset, .unset, .unset] [(.long q1), (.int (15 : Int32)), (.ref b12)])) rfl (hb hby at_205) _ ?_
    show Steps p.tables e below (T18.setTop (mkF m 208 #[.val (.long q0), .second, .val (.long q1), .second, .val (.int p2), .val (.int p3), .val (.int p4), .val (.int v8), .val (.ref b12), .unset, .unset, .unset, .unset, .unset] [(.long (-1 : Int64)), (.long q1), (.int (15 : Int32)), (.ref b12)])) t
    refine XS.lxor X18.here hx rfl (hb hby at_208) rfl ?_
    show Steps p.tables e below (T18.setTop (mkF m 209 #[.val (.long q0), .second, .val (.long q1), .second, .val (.int p2), .val (.int p3), .val (.int p4), .val (.int v8), .val (.ref b12), .unset, .unset, .unset, .unset, .unset] [(.long (q1 ^^^ (-1 : Int64))), (.int (15 : Int32)), (.ref b12)])) t
    refine XS.l2i X18.here hx rfl (hb hby at_209) rfl ?_
    show Steps p.tables e below (T18.setTop (mkF m 210 #[.val (.long q0), .second, .val (.long q1), .second, .val (.int p2), .val (.int p3), .val (.int p4), .val (.int v8), .val (.ref b12), .unset, .unset, .unset, .unset, .unset] [(.int ((q1 ^^^ (-1 : Int64)).toInt32)), (.int (15 : Int32)), (.ref b12)])) t
    refine XS.i2b X18.here hx rfl (hb hby at_210) rfl ?_
    show Steps p.tables e below (T18.setTop (mkF m 211 #[.val (.long q0), .second, .val (.long q1), .second, .val (.int p2), .val (.int p3), .val (.int p4), .val (.int v8), .val (.ref b12), .unset, .unset, .unset, .unset, .unset] [(.int (((q1 ^^^ (-1 : Int64)).toInt32).toInt8.toInt32)), (.int (15 : Int32)), (.ref b12)])) t
    refine st19 _ ?_
    show Steps p.tables e below (T19.setTop (mkF m 212 #[.val (.long q0), .second, .val (.long q1), .second, .val (.int p2), .val (.int p3), .val (.int p4), .val (.int v8), .val (.ref b12), .unset, .unset, .unset, .unset, .unset] [])) t
    refine XS.aload X19.here hx rfl (hb hby at_212) rfl rfl ?_
    show Steps p.tables e below (T19.setTop (mkF m 214 #[.val (.long q0), .second, .val (.long q1), .second, .val (.int p2), .val (.int p3), .val (.int p4), .val (.int v8), .val (.ref b12), .unset, .unset, .unset, .unset, .unset] [(.ref b12)])) t
    refine XS.iload X19.here hx rfl (hb hby at_214) rfl ?_
    show Steps p.tables e below (T19.setTop (mkF m 216 #[.val (.long q0), .second, .val (.long q1), .second, .val (.int p2), .val (.int p3), .val (.int p4), .val (.int v8), .val (.ref b12), .unset, .unset, .unset, .unset, .unset] [(.int v8), (.ref b12)])) t
    refine XS.lloadN X19.here hx rfl (hb hby at_216) rfl ?_
    show Steps p.tables e below (T19.setTop (mkF m 217 #[.val (.long q0), .second, .val (.long q1), .second, .val (.int p2), .val (.int p3), .val (.int p4), .val (.int v8), .val (.ref b12), .unset, .unset, .unset, .unset, .unset] [(.long q0), (.int v8), (.ref b12)])) t
    refine XS.bipush X19.here hx rfl (hb hby at_217) ?_
    show Steps p.tables e below (T19.setTop (mkF m 219 #[.val (.long q0), .second, .val (.long q1), .second, .val (.int p2), .val (.int p3), .val (.int p4), .val (.int v8), .val (.ref b12), .unset, .unset, .unset, .unset, .unset] [(.int (56 : Int32)), (.long q0), (.int v8), (.ref b12)])) t
    refine XS.lushr X19.here hx rfl (hb hby at_219) rfl ?_
    show Steps p.tables e below (T19.setTop (mkF m 220 #[.val (.long q0), .second, .val (.long q1), .second, .val (.int p2), .val (.int p3), .val (.int p4), .val (.int v8), .val (.ref b12), .unset, .unset, .unset, .unset, .unset] [(.long ((q0.toUInt64 >>> ((56 : Int32) &&& 0x3f).toInt64.toUInt64).toInt64)), (.int v8), (.ref b12)])) t
    refine XS.l2i X19.here hx rfl (hb hby at_220) rfl ?_
    show Steps p.tables e below (T19.setTop (mkF m 221 #[.val (.long q0), .second, .val (.long q1), .second, .val (.int p2), .val (.int p3), .val (.int p4), .val (.int v8), .val (.ref b12), .unset, .unset, .unset, .unset, .unset] [(.int (((q0.toUInt64 >>> ((56 : Int32) &&& 0x3f).toInt64.toUInt64).toInt64).toInt32)), (.int v8), (.ref b12)])) t
    refine XS.i2b X19.here hx rfl (hb hby at_221) rfl ?_
    show Steps p.tables e below (T19.setTop (mkF m 222 #[.val (.long q0), .second, .val (.long q1), .second, .val (.int p2), .val (.int p3), .val (.int p4), .val (.int v8), .val (.ref b12), .unset, .unset, .unset, .unset, .unset] [(.int ((((q0.toUInt64 >>> ((56 : Int32) &&& 0x3f).toInt64.toUInt64).toInt64).toInt32).toInt8.toInt32)), (.int v8), (.ref b12)])) t
    refine st20 _ ?_
    show Steps p.tables e below (T20.setTop (mkF m 223 #[.val (.long q0), .second, .val (.long q1), .second, .val (.int p2), .val (.int p3), .val (.int p4), .val (.int v8), .val (.ref b12), .unset, .unset, .unset, .unset, .unset] [])) t
    refine XS.aload X20.here hx rfl (hb hby at_223) rfl rfl ?_
    show Steps p.tables e below (T20.setTop (mkF m 225 #[.val (.long q0), .second, .val (.long q1), .second, .val (.int p2), .val (.int p3), .val (.int p4), .val (.int v8), .val (.ref b12), .unset, .unset, .unset, .unset, .unset] [(.ref b12)])) t
    refine XS.iload X20.here hx rfl (hb hby at_225) rfl ?_
    show Steps p.tables e below (T20.setTop (mkF m 227 #[.val (.long q0), .second, .val (.long q1), .second, .val (.int p2), .val (.int p3), .val (.int p4), .val (.int v8), .val (.ref b12), .unset, .unset, .unset, .unset, .unset] [(.int v8), (.ref b12)])) t
    refine XS.iconst X20.here hx rfl (hb hby at_227) ?_
    show Steps p.tables e below (T20.setTop (mkF m 228 #[.val (.long q0), .second, .val (.long q1), .second, .val (.int p2), .val (.int p3), .val (.int p4), .val (.int v8), .val (.ref b12), .unset, .unset, .unset, .unset, .unset] [(.int (1 : Int32)), (.int v8), (.ref b12)])) t
    refine XS.iadd X20.here hx rfl (hb hby at_228) rfl ?_
    show Steps p.tables e below (T20.setTop (mkF m 229 #[.val (.long q0), .second, .val (.long q1), .second, .val (.int p2), .val (.int p3), .val (.int p4), .val (.int v8), .val (.ref b12), .unset, .unset, .unset, .unset, .unset] [(.int (v8 + (1 : Int32))), (.ref b12)])) t
    refine XS.lloadN X20.here hx rfl (hb hby at_229) rfl ?_
    show Steps p.tables e below (T20.setTop (mkF m 230 #[.val (.long q0), .second, .val (.long q1), .second, .val (.int p2), .val (.int p3), .val (.int p4), .val (.int v8), .val (.ref b12), .unset, .unset, .unset, .unset, .unset] [(.long q0), (.int (v8 + (1 : Int32))), (.ref b12)])) t
    refine XS.bipush X20.here hx rfl (hb hby at_230) ?_
    show Steps p.tables e below (T20.setTop (mkF m 232 #[.val (.long q0), .second, .val (.long q1), .second, .val (.int p2), .val (.int p3), .val (.int p4), .val (.int v8), .val (.ref b12), .unset, .unset, .unset, .unset, .unset] [(.int (48 : Int32)), (.long q0), (.int (v8 + (1 : Int32))), (.ref b12)])) t
    refine XS.lushr X20.here hx rfl (hb hby at_232) rfl ?_
    show Steps p.tables e below (T20.setTop (mkF m 233 #[.val (.long q0), .second, .val (.long q1), .second, .val (.int p2), .val (.int p3), .val (.int p4), .val (.int v8), .val (.ref b12), .unset, .unset, .unset, .unset, .unset] [(.long ((q0.toUInt64 >>> ((48 : Int32) &&& 0x3f).toInt64.toUInt64).toInt64)), (.int (v8 + (1 : Int32))), (.ref b12)])) t
    refine XS.l2i X20.here hx rfl (hb hby at_233) rfl ?_
    show Steps p.tables e below (T20.setTop (mkF m 234 #[.val (.long q0), .second, .val (.long q1), .second, .val (.int p2), .val (.int p3), .val (.int p4), .val (.int v8), .val (.ref b12), .unset, .unset, .unset, .unset, .unset] [(.int (((q0.toUInt64 >>> ((48 : Int32) &&& 0x3f).toInt64.toUInt64).toInt64).toInt32)), (.int (v8 + (1 : Int32))), (.ref b12)])) t
    refine XS.i2b X20.here hx rfl (hb hby at_234) rfl ?_
    show Steps p.tables e below (T20.setTop (mkF m 235 #[.val (.long q0), .second, .val (.long q1), .second, .val (.int p2), .val (.int p3), .val (.int p4), .val (.int v8), .val (.ref b12), .unset, .unset, .unset, .unset, .unset] [(.int ((((q0.toUInt64 >>> ((48 : Int32) &&& 0x3f).toInt64.toUInt64).toInt64).toInt32).toInt8.toInt32)), (.int (v8 + (1 : Int32))), (.ref b12)])) t
    refine st21 _ ?_
    show Steps p.tables e below (T21.setTop (mkF m 236 #[.val (.long q0), .second, .val (.long q1), .second, .val (.int p2), .val (.int p3), .val (.int p4), .val (.int v8), .val (.ref b12), .unset, .unset, .unset, .unset, .unset] [])) t
    refine XS.aload X21.here hx rfl (hb hby at_236) rfl rfl ?_
    show Steps p.tables e below (T21.setTop (mkF m 238 #[.val (.long q0), .second, .val (.long q1), .second, .val (.int p2), .val (.int p3), .val (.int p4), .val (.int v8), .val (.ref b12), .unset, .unset, .unset, .unset, .unset] [(.ref b12)])) t
    refine XS.iload X21.here hx rfl (hb hby at_238) rfl ?_
    show Steps p.tables e below (T21.setTop (mkF m 240 #[.val (.long q0), .second, .val (.long q1), .second, .val (.int p2), .val (.int p3), .val (.int p4), .val (.int v8), .val (.ref b12), .unset, .unset, .unset, .unset, .unset] [(.int v8), (.ref b12)])) t
    refine XS.iconst X21.here hx rfl (hb hby at_240) ?_
    show Steps p.tables e below (T21.setTop (mkF m 241 #[.val (.long q0), .second, .val (.long q1), .second, .val (.int p2), .val (.int p3), .val (.int p4), .val (.int v8), .val (.ref b12), .unset, .unset, .unset, .unset, .unset] [(.int (2 : Int32)), (.int v8), (.ref b12)])) t
    refine XS.iadd X21.here hx rfl (hb hby at_241) rfl ?_
    show Steps p.tables e below (T21.setTop (mkF m 242 #[.val (.long q0), .second, .val (.long q1), .second, .val (.int p2), .val (.int p3), .val (.int p4), .val (.int v8), .val (.ref b12), .unset, .unset, .unset, .unset, .unset] [(.int (v8 + (2 : Int32))), (.ref b12)])) t
    refine XS.lloadN X21.here hx rfl (hb hby at_242) rfl ?_
    show Steps p.tables e below (T21.setTop (mkF m 243 #[.val (.long q0), .second, .val (.long q1), .second, .val (.int p2), .val (.int p3), .val (.int p4), .val (.int v8), .val (.ref b12), .unset, .unset, .unset, .unset, .unset] [(.long q0), (.int (v8 + (2 : Int32))), (.ref b12)])) t
    refine XS.bipush X21.here hx rfl (hb hby at_243) ?_
    show Steps p.tables e below (T21.setTop (mkF m 245 #[.val (.long q0), .second, .val (.long q1), .second, .val (.int p2), .val (.int p3), .val (.int p4), .val (.int v8), .val (.ref b12), .unset, .unset, .unset, .unset, .unset] [(.int (40 : Int32)), (.long q0), (.int (v8 + (2 : Int32))), (.ref b12)])) t
    refine XS.lushr X21.here hx rfl (hb hby at_245) rfl ?_
    show Steps p.tables e below (T21.setTop (mkF m 246 #[.val (.long q0), .second, .val (.long q1), .second, .val (.int p2), .val (.int p3), .val (.int p4), .val (.int v8), .val (.ref b12), .unset, .unset, .unset, .unset, .unset] [(.long ((q0.toUInt64 >>> ((40 : Int32) &&& 0x3f).toInt64.toUInt64).toInt64)), (.int (v8 + (2 : Int32))), (.ref b12)])) t
    refine XS.l2i X21.here hx rfl (hb hby at_246) rfl ?_
    show Steps p.tables e below (T21.setTop (mkF m 247 #[.val (.long q0), .second, .val (.long q1), .second, .val (.int p2), .val (.int p3), .val (.int p4), .val (.int v8), .val (.ref b12), .unset, .unset, .unset, .unset, .unset] [(.int (((q0.toUInt64 >>> ((40 : Int32) &&& 0x3f).toInt64.toUInt64).toInt64).toInt32)), (.int (v8 + (2 : Int32))), (.ref b12)])) t
    refine XS.i2b X21.here hx rfl (hb hby at_247) rfl ?_
    show Steps p.tables e below (T21.setTop (mkF m 248 #[.val (.long q0), .second, .val (.long q1), .second, .val (.int p2), .val (.int p3), .val (.int p4), .val (.int v8), .val (.ref b12), .unset, .unset, .unset, .unset, .unset] [(.int ((((q0.toUInt64 >>> ((40 : Int32) &&& 0x3f).toInt64.toUInt64).toInt64).toInt32).toInt8.toInt32)), (.int (v8 + (2 : Int32))), (.ref b12)])) t
    refine st22 _ ?_
    show Steps p.tables e below (T22.setTop (mkF m 249 #[.val (.long q0), .second, .val (.long q1), .second, .val (.int p2), .val (.int p3), .val (.int p4), .val (.int v8), .val (.ref b12), .unset, .unset, .unset, .unset, .unset] [])) t
    refine XS.aload X22.here hx rfl (hb hby at_249) rfl rfl ?_
    show Steps p.tables e below (T22.setTop (mkF m 251 #[.val (.long q0), .second, .val (.long q1), .second, .val (.int p2), .val (.int p3), .val (.int p4), .val (.int v8), .val (.ref b12), .unset, .unset, .unset, .unset, .unset] [(.ref b12)])) t
    refine XS.iload X22.here hx rfl (hb hby at_251) rfl ?_
    show Steps p.tables e below (T22.setTop (mkF m 253 #[.val (.long q0), .second, .val (.long q1), .second, .val (.int p2), .val (.int p3), .val (.int p4), .val (.int v8), .val (.ref b12), .unset, .unset, .unset, .unset, .unset] [(.int v8), (.ref b12)])) t
    refine XS.iconst X22.here hx rfl (hb hby at_253) ?_
    show Steps p.tables e below (T22.setTop (mkF m 254 #[.val (.long q0), .second, .val (.long q1), .second, .val (.int p2), .val (.int p3), .val (.int p4), .val (.int v8), .val (.ref b12), .unset, .unset, .unset, .unset, .unset] [(.int (3 : Int32)), (.int v8), (.ref b12)])) t
    refine XS.iadd X22.here hx rfl (hb hby at_254) rfl ?_
    show Steps p.tables e below (T22.setTop (mkF m 255 #[.val (.long q0), .second, .val (.long q1), .second, .val (.int p2), .val (.int p3), .val (.int p4), .val (.int v8), .val (.ref b12), .unset, .unset, .unset, .unset, .unset] [(.int (v8 + (3 : Int32))), (.ref b12)])) t
    refine XS.lloadN X22.here hx rfl (hb hby at_255) rfl ?_
    show Steps p.tables e below (T22.setTop (mkF m 256 #[.val (.long q0), .second, .val (.long q1), .second, .val (.int p2), .val (.int p3), .val (.int p4), .val (.int v8), .val (.ref b12), .unset, .unset, .unset, .unset, .unset] [(.long q0), (.int (v8 + (3 : Int32))), (.ref b12)])) t
    refine XS.bipush X22.here hx rfl (hb hby at_256) ?_
    show Steps p.tables e below (T22.setTop (mkF m 258 #[.val (.long q0), .second, .val (.long q1), .second, .val (.int p2), .val (.int p3), .val (.int p4), .val (.int v8), .val (.ref b12), .unset, .unset, .unset, .unset, .unset] [(.int (32 : Int32)), (.long q0), (.int (v8 + (3 : Int32))), (.ref b12)])) t
    refine XS.lushr X22.here hx rfl (hb hby at_258) rfl ?_
    show Steps p.tables e below (T22.setTop (mkF m 259 #[.val (.long q0), .second, .val (.long q1), .second, .val (.int p2), .val (.int p3), .val (.int p4), .val (.int v8), .val (.ref b12), .unset, .unset, .unset, .unset, .unset] [(.long ((q0.toUInt64 >>> ((32 : Int32) &&& 0x3f).toInt64.toUInt64).toInt64)), (.int (v8 + (3 : Int32))), (.ref b12)])) t
    refine XS.l2i X22.here hx rfl (hb hby at_259) rfl ?_
    show Steps p.tables e below (T22.setTop (mkF m 260 #[.val (.long q0), .second, .val (.long q1), .second, .val (.int p2), .val (.int p3), .val (.int p4), .val (.int v8), .val (.ref b12), .unset, .unset, .unset, .unset, .unset] [(.int (((q0.toUInt64 >>> ((32 : Int32) &&& 0x3f).toInt64.toUInt64).toInt64).toInt32)), (.int (v8 + (3 : Int32))), (.ref b12)])) t
    refine XS.i2b X22.here hx rfl (hb hby at_260) rfl ?_
    show Steps p.tables e below (T22.setTop (mkF m 261 #[.val (.long q0), .second, .val (.long q1), .second, .val (.int p2), .val (.int p3), .val (.int p4), .val (.int v8), .val (.ref b12), .unset, .unset, .unset, .unset, .unset] [(.int ((((q0.toUInt64 >>> ((32 : Int32) &&& 0x3f).toInt64.toUInt64).toInt64).toInt32).toInt8.toInt32)), (.int (v8 + (3 : Int32))), (.ref b12)])) t
    refine st23 _ ?_
    show Steps p.tables e below (T23.setTop (mkF m 262 #[.val (.long q0), .second, .val (.long q1), .second, .val (.int p2), .val (.int p3), .val (.int p4), .val (.int v8), .val (.ref b12), .unset, .unset, .unset, .unset, .unset] [])) t
    refine XS.aload X23.here hx rfl (hb hby at_262) rfl rfl ?_
    show Steps p.tables e below (T23.setTop (mkF m 264 #[.val (.long q0), .second, .val (.long q1), .second, .val (.int p2), .val (.int p3), .val (.int p4), .val (.int v8), .val (.ref b12), .unset, .unset, .unset, .unset, .unset] [(.ref b12)])) t
    refine XS.iload X23.here hx rfl (hb hby at_264) rfl ?_
    show Steps p.tables e below (T23.setTop (mkF m 266 #[.val (.long q0), .second, .val (.long q1), .second, .val (.int p2), .val (.int p3), .val (.int p4), .val (.int v8), .val (.ref b12), .unset, .unset, .unset, .unset, .unset] [(.int v8), (.ref b12)])) t
    refine XS.iconst X23.here hx rfl (hb hby at_266) ?_
    show Steps p.tables e below (T23.setTop (mkF m 267 #[.val (.long q0), .second, .val (.long q1), .second, .val (.int p2), .val (.int p3), .val (.int p4), .val (.int v8), .val (.ref b12), .unset, .unset, .unset, .unset, .unset] [(.int (4 : Int32)), (.int v8), (.ref b12)])) t
    refine XS.iadd X23.here hx rfl (hb hby at_267) rfl ?_
    show Steps p.tables e below (T23.setTop (mkF m 268 #[.val (.long q0), .second, .val (.long q1), .second, .val (.int p2), .val (.int p3), .val (.int p4), .val (.int v8), .val (.ref b12), .unset, .unset, .unset, .unset, .unset] [(.int (v8 + (4 : Int32))), (.ref b12)])) t
    refine XS.lloadN X23.here hx rfl (hb hby at_268) rfl ?_
    show Steps p.tables e below (T23.setTop (mkF m 269 #[.val (.long q0), .second, .val (.long q1), .second, .val (.int p2), .val (.int p3), .val (.int p4), .val (.int v8), .val (.ref b12), .unset, .unset, .unset, .unset, .unset] [(.long q0), (.int (v8 + (4 : Int32))), (.ref b12)])) t
    refine XS.bipush X23.here hx rfl (hb hby at_269) ?_
    show Steps p.tables e below (T23.setTop (mkF m 271 #[.val (.long q0), .second, .val (.long q1), .second, .val (.int p2), .val (.int p3), .val (.int p4), .val (.int v8), .val (.ref b12), .unset, .unset, .unset, .unset, .unset] [(.int (24 : Int32)), (.long q0), (.int (v8 + (4 : Int32))), (.ref b12)])) t
    refine XS.lushr X23.here hx rfl (hb hby at_271) rfl ?_
    show Steps p.tables e below (T23.setTop (mkF m 272 #[.val (.long q0), .second, .val (.long q1), .second, .val (.int p2), .val (.int p3), .val (.int p4), .val (.int v8), .val (.ref b12), .unset, .unset, .unset, .unset, .unset] [(.long ((q0.toUInt64 >>> ((24 : Int32) &&& 0x3f).toInt64.toUInt64).toInt64)), (.int (v8 + (4 : Int32))), (.ref b12)])) t
    refine XS.l2i X23.here hx rfl (hb hby at_272) rfl ?_
    show Steps p.tables e below (T23.setTop (mkF m 273 #[.val (.long q0), .second, .val (.long q1), .second, .val (.int p2), .val (.int p3), .val (.int p4), .val (.int v8), .val (.ref b12), .unset, .unset, .unset, .unset, .unset] [(.int (((q0.toUInt64 >>> ((24 : Int32) &&& 0x3f).toInt64.toUInt64).toInt64).toInt32)), (.int (v8 + (4 : Int32))), (.ref b12)])) t
    refine XS.i2b X23.here hx rfl (hb hby at_273) rfl ?_
    show Steps p.tables e below (T23.setTop (mkF m 274 #[.val (.long q0), .second, .val (.long q1), .second, .val (.int p2), .val (.int p3), .val (.int p4), .val (.int v8), .val (.ref b12), .unset, .unset, .unset, .unset, .unset] [(.int ((((q0.toUInt64 >>> ((24 : Int32) &&& 0x3f).toInt64.toUInt64).toInt64).toInt32).toInt8.toInt32)), (.int (v8 + (4 : Int32))), (.ref b12)])) t
    refine st24 _ ?_
    show Steps p.tables e below (T24.setTop (mkF m 275 #[.val (.long q0), .second, .val (.long q1), .second, .val (.int p2), .val (.int p3), .val (.int p4), .val (.int v8), .val (.ref b12), .unset, .unset, .unset, .unset, .unset] [])) t
    refine XS.aload X24.here hx rfl (hb hby at_275) rfl rfl ?_
    show Steps p.tables e below (T24.setTop (mkF m 277 #[.val (.long q0), .second, .val (.long q1), .second, .val (.int p2), .val (.int p3), .val (.int p4), .val (.int v8), .val (.ref b12), .unset, .unset, .unset, .unset, .unset] [(.ref b12)])) t
    refine XS.iload X24.here hx rfl (hb hby at_277) rfl ?_
    show Steps p.tables e below (T24.setTop (mkF m 279 #[.val (.long q0), .second, .val (.long q1), .second, .val (.int p2), .val (.int p3), .val (.int p4), .val (.int v8), .val (.ref b12), .unset, .unset, .unset, .unset, .unset] [(.int v8), (.ref b12)])) t
    refine XS.iconst X24.here hx rfl (hb hby at_279) ?_
    show Steps p.tables e below (T24.setTop (mkF m 280 #[.val (.long q0), .second, .val (.long q1), .second, .val (.int p2), .val (.int p3), .val (.int p4), .val (.int v8), .val (.ref b12), .unset, .unset, .unset, .unset, .unset] [(.int (5 : Int32)), (.int v8), (.ref b12)])) t
    refine XS.iadd X24.here hx rfl (hb hby at_280) rfl ?_
    show Steps p.tables e below (T24.setTop (mkF m 281 #[.val (.long q0), .second, .val (.long q1), .second, .val (.int p2), .val (.int p3), .val (.int p4), .val (.int v8), .val (.ref b12), .unset, .unset, .unset, .unset, .unset] [(.int (v8 + (5 : Int32))), (.ref b12)])) t
    refine XS.lloadN X24.here hx rfl (hb hby at_281) rfl ?_
    show Steps p.tables e below (T24.setTop (mkF m 282 #[.val (.long q0), .second, .val (.long q1), .second, .val (.int p2), .val (.int p3), .val (.int p4), .val (.int v8), .val (.ref b12), .unset, .unset, .unset, .unset, .unset] [(.long q0), (.int (v8 + (5 : Int32))), (.ref b12)])) t
    refine XS.bipush X24.here hx rfl (hb hby at_282) ?_
    show Steps p.tables e below (T24.setTop (mkF m 284 #[.val (.long q0), .second, .val (.long q1), .second, .val (.int p2), .val (.int p3), .val (.int p4), .val (.int v8), .val (.ref b12), .unset, .unset, .unset, .unset, .unset] [(.int (16 : Int32)), (.long q0), (.int (v8 + (5 : Int32))), (.ref b12)])) t
    refine XS.lushr X24.here hx rfl (hb hby at_284) rfl ?_
    show Steps p.tables e below (T24.setTop (mkF m 285 #[.val (.long q0), .second, .val (.long q1), .second, .val (.int p2), .val (.int p3), .val (.int p4), .val (.int v8), .val (.ref b12), .unset, .unset, .unset, .unset, .unset] [(.long ((q0.toUInt64 >>> ((16 : Int32) &&& 0x3f).toInt64.toUInt64).toInt64)), (.int (v8 + (5 : Int32))), (.ref b12)])) t
    refine XS.l2i X24.here hx rfl (hb hby at_285) rfl ?_
    show Steps p.tables e below (T24.setTop (mkF m 286 #[.val (.long q0), .second, .val (.long q1), .second, .val (.int p2), .val (.int p3), .val (.int p4), .val (.int v8), .val (.ref b12), .unset, .unset, .unset, .unset, .unset] [(.int (((q0.toUInt64 >>> ((16 : Int32) &&& 0x3f).toInt64.toUInt64).toInt64).toInt32)), (.int (v8 + (5 : Int32))), (.ref b12)])) t
    refine XS.i2b X24.here hx rfl (hb hby at_286) rfl ?_
    show Steps p.tables e below (T24.setTop (mkF m 287 #[.val (.long q0), .second, .val (.long q1), .second, .val (.int p2), .val (.int p3), .val (.int p4), .val (.int v8), .val (.ref b12), .unset, .unset, .unset, .unset, .unset] [(.int ((((q0.toUInt64 >>> ((16 : Int32) &&& 0x3f).toInt64.toUInt64).toInt64).toInt32).toInt8.toInt32)), (.int (v8 + (5 : Int32))), (.ref b12)])) t
    refine st25 _ ?_
    show Steps p.tables e below (T25.setTop (mkF m 288 #[.val (.long q0), .second, .val (.long q1), .second, .val (.int p2), .val (.int p3), .val (.int p4), .val (.int v8), .val (.ref b12), .unset, .unset, .unset, .unset, .unset] [])) t
    refine XS.aload X25.here hx rfl (hb hby at_288) rfl rfl ?_
    show Steps p.tables e below (T25.setTop (mkF m 290 #[.val (.long q0), .second, .val (.long q1), .second, .val (.int p2), .val (.int p3), .val (.int p4), .val (.int v8), .val (.ref b12), .unset, .unset, .unset, .unset, .unset] [(.ref b12)])) t
    refine XS.iload X25.here hx rfl (hb hby at_290) rfl ?_
    show Steps p.tables e below (T25.setTop (mkF m 292 #[.val (.long q0), .second, .val (.long q1), .second, .val (.int p2), .val (.int p3), .val (.int p4), .val (.int v8), .val (.ref b12), .unset, .unset, .unset, .unset, .unset] [(.int v8), (.ref b12)])) t
    refine XS.bipush X25.here hx rfl (hb hby at_292) ?_
    show Steps p.tables e below (T25.setTop (mkF m 294 #[.val (.long q0), .second, .val (.long q1), .second, .val (.int p2), .val (.int p3), .val (.int p4), .val (.int v8), .val (.ref b12), .unset, .unset, .unset, .unset, .unset] [(.int (6 : Int32)), (.int v8), (.ref b12)])) t
    refine XS.iadd X25.here hx rfl (hb hby at_294) rfl ?_
    show Steps p.tables e below (T25.setTop (mkF m 295 #[.val (.long q0), .second, .val (.long q1), .second, .val (.int p2), .val (.int p3), .val (.int p4), .val (.int v8), .val (.ref b12), .unset, .unset, .unset, .unset, .unset] [(.int (v8 + (6 : Int32))), (.ref b12)])) t
    refine XS.lloadN X25.here hx rfl (hb hby at_295) rfl ?_
    show Steps p.tables e below (T25.setTop (mkF m 296 #[.val (.long q0), .second, .val (.long q1), .second, .val (.int p2), .val (.int p3), .val (.int p4), .val (.int v8), .val (.ref b12), .unset, .unset, .unset, .unset, .unset] [(.long q0), (.int (v8 + (6 : Int32))), (.ref b12)])) t
    refine XS.bipush X25.here hx rfl (hb hby at_296) ?_
    show Steps p.tables e below (T25.setTop (mkF m 298 #[.val (.long q0), .second, .val (.long q1), .second, .val (.int p2), .val (.int p3), .val (.int p4), .val (.int v8), .val (.ref b12), .unset, .unset, .unset, .unset, .unset] [(.int (8 : Int32)), (.long q0), (.int (v8 + (6 : Int32))), (.ref b12)])) t
    refine XS.lushr X25.here hx rfl (hb hby at_298) rfl ?_
    show Steps p.tables e below (T25.setTop (mkF m 299 #[.val (.long q0), .second, .val (.long q1), .second, .val (.int p2), .val (.int p3), .val (.int p4), .val (.int v8), .val (.ref b12), .unset, .unset, .unset, .unset, .unset] [(.long ((q0.toUInt64 >>> ((8 : Int32) &&& 0x3f).toInt64.toUInt64).toInt64)), (.int (v8 + (6 : Int32))), (.ref b12)])) t
    refine XS.l2i X25.here hx rfl (hb hby at_299) rfl ?_
    show Steps p.tables e below (T25.setTop (mkF m 300 #[.val (.long q0), .second, .val (.long q1), .second, .val (.int p2), .val (.int p3), .val (.int p4), .val (.int v8), .val (.ref b12), .unset, .unset, .unset, .unset, .unset] [(.int (((q0.toUInt64 >>> ((8 : Int32) &&& 0x3f).toInt64.toUInt64).toInt64).toInt32)), (.int (v8 + (6 : Int32))), (.ref b12)])) t
    refine XS.i2b X25.here hx rfl (hb hby at_300) rfl ?_
    show Steps p.tables e below (T25.setTop (mkF m 301 #[.val (.long q0), .second, .val (.long q1), .second, .val (.int p2), .val (.int p3), .val (.int p4), .val (.int v8), .val (.ref b12), .unset, .unset, .unset, .unset, .unset] [(.int ((((q0.toUInt64 >>> ((8 : Int32) &&& 0x3f).toInt64.toUInt64).toInt64).toInt32).toInt8.toInt32)), (.int (v8 + (6 : Int32))), (.ref b12)])) t
    refine st26 _ ?_
    show Steps p.tables e below (T26.setTop (mkF m 302 #[.val (.long q0), .second, .val (.long q1), .second, .val (.int p2), .val (.int p3), .val (.int p4), .val (.int v8), .val (.ref b12), .unset, .unset, .unset, .unset, .unset] [])) t
    refine XS.aload X26.here hx rfl (hb hby at_302) rfl rfl ?_
    show Steps p.tables e below (T26.setTop (mkF m 304 #[.val (.long q0), .second, .val (.long q1), .second, .val (.int p2), .val (.int p3), .val (.int p4), .val (.int v8), .val (.ref b12), .unset, .unset, .unset, .unset, .unset] [(.ref b12)])) t
    refine XS.iload X26.here hx rfl (hb hby at_304) rfl ?_
    show Steps p.tables e below (T26.setTop (mkF m 306 #[.val (.long q0), .second, .val (.long q1), .second, .val (.int p2), .val (.int p3), .val (.int p4), .val (.int v8), .val (.ref b12), .unset, .unset, .unset, .unset, .unset] [(.int v8), (.ref b12)])) t
    refine XS.bipush X26.here hx rfl (hb hby at_306) ?_
    show Steps p.tables e below (T26.setTop (mkF m 308 #[.val (.long q0), .second, .val (.long q1), .second, .val (.int p2), .val (.int p3), .val (.int p4), .val (.int v8), .val (.ref b12), .unset, .unset, .unset, .unset, .unset] [(.int (7 : Int32)), (.int v8), (.ref b12)])) t
    refine XS.iadd X26.here hx rfl (hb hby at_308) rfl ?_
    show Steps p.tables e below (T26.setTop (mkF m 309 #[.val (.long q0), .second, .val (.long q1), .second, .val (.int p2), .val (.int p3), .val (.int p4), .val (.int v8), .val (.ref b12), .unset, .unset, .unset, .unset, .unset] [(.int (v8 + (7 : Int32))), (.ref b12)])) t
    refine XS.lloadN X26.here hx rfl (hb hby at_309) rfl ?_
    show Steps p.tables e below (T26.setTop (mkF m 310 #[.val (.long q0), .second, .val (.long q1), .second, .val (.int p2), .val (.int p3), .val (.int p4), .val (.int v8), .val (.ref b12), .unset, .unset, .unset, .unset, .unset] [(.long q0), (.int (v8 + (7 : Int32))), (.ref b12)])) t
    refine XS.l2i X26.here hx rfl (hb hby at_310) rfl ?_
    show Steps p.tables e below (T26.setTop (mkF m 311 #[.val (.long q0), .second, .val (.long q1), .second, .val (.int p2), .val (.int p3), .val (.int p4), .val (.int v8), .val (.ref b12), .unset, .unset, .unset, .unset, .unset] [(.int (q0.toInt32)), (.int (v8 + (7 : Int32))), (.ref b12)])) t
    refine XS.i2b X26.here hx rfl (hb hby at_311) rfl ?_
    show Steps p.tables e below (T26.setTop (mkF m 312 #[.val (.long q0), .second, .val (.long q1), .second, .val (.int p2), .val (.int p3), .val (.int p4), .val (.int v8), .val (.ref b12), .unset, .unset, .unset, .unset, .unset] [(.int ((q0.toInt32).toInt8.toInt32)), (.int (v8 + (7 : Int32))), (.ref b12)])) t
    refine st27 _ ?_
    show Steps p.tables e below (T27.setTop (mkF m 313 #[.val (.long q0), .second, .val (.long q1), .second, .val (.int p2), .val (.int p3), .val (.int p4), .val (.int v8), .val (.ref b12), .unset, .unset, .unset, .unset, .unset] [])) t
    refine XS.iload X27.here hx rfl (hb hby at_313) rfl ?_
    show Steps p.tables e below (T27.setTop (mkF m 315 #[.val (.long q0), .second, .val (.long q1), .second, .val (.int p2), .val (.int p3), .val (.int p4), .val (.int v8), .val (.ref b12), .unset, .unset, .unset, .unset, .unset] [(.int p4)])) t
    refine XS.iconst X27.here hx rfl (hb hby at_315) ?_
    show Steps p.tables e below (T27.setTop (mkF m 316 #[.val (.long q0), .second, .val (.long q1), .second, .val (.int p2), .val (.int p3), .val (.int p4), .val (.int v8), .val (.ref b12), .unset, .unset, .unset, .unset, .unset] [(.int (1 : Int32)), (.int p4)])) t
    refine XS.iand X27.here hx rfl (hb hby at_316) rfl ?_
    exact kt
  obtain ⟨j335_s0, hj335_s0, K31⟩ : ∃ (j335_s0 : Int32), j335_s0 = (if (p4 &&& (1 : Int32)) = (0 : Int32) then ((v8 + (p3 &&& (15 : Int32))) - (4 : Int32)) else p3) ∧ ∀ t, Steps p.tables e below (T27.setTop (mkF m 335 #[.val (.long q0), .second, .val (.long q1), .second, .val (.int p2), .val (.int p3), .val (.int p4), .val (.int v8), .val (.ref b12), .unset, .unset, .unset, .unset, .unset] [(.int j335_s0)])) t → P0 t := by
    by_cases hc317 : (p4 &&& (1 : Int32)) = (0 : Int32)
    · have K29 : ∀ t, Steps p.tables e below (T27.setTop (mkF m 335 #[.val (.long q0), .second, .val (.long q1), .second, .val (.int p2), .val (.int p3), .val (.int p4), .val (.int v8), .val (.ref b12), .unset, .unset, .unset, .unset, .unset] [(.int ((v8 + (p3 &&& (15 : Int32))) - (4 : Int32)))])) t → P0 t := by
        intro t kt
        refine K28 t ?_
        show Steps p.tables e below (T27.setTop (mkF m 317 #[.val (.long q0), .second, .val (.long q1), .second, .val (.int p2), .val (.int p3), .val (.int p4), .val (.int v8), .val (.ref b12), .unset, .unset, .unset, .unset, .unset] [(.int (p4 &&& (1 : Int32)))])) t
        refine XS.ifYes X27.here hx rfl (pc0 := 317) (pc' := 325) rfl (hb hby at_317) rfl ((if0 _ _).trans (teq hc317).1) (by decide) (by decide) ?_
        show Steps p.tables e below (T27.setTop (mkF m 325 #[.val (.long q0), .second, .val (.long q1), .second, .val (.int p2), .val (.int p3), .val (.int p4), .val (.int v8), .val (.ref b12), .unset, .unset, .unset, .unset, .unset] [])) t
        refine XS.iload X27.here hx rfl (hb hby at_325) rfl ?_
        show Steps p.tables e below (T27.setTop (mkF m 327 #[.val (.long q0), .second, .val (.long q1), .second, .val (.int p2), .val (.int p3), .val (.int p4), .val (.int v8), .val (.ref b12), .unset, .unset, .unset, .unset, .unset] [(.int v8)])) t
        refine XS.iload X27.here hx rfl (hb hby at_327) rfl ?_
        show Steps p.tables e below (T27.setTop (mkF m 329 #[.val (.long q0), .second, .val (.long q1), .second, .val (.int p2), .val (.int p3), .val (.int p4), .val (.int v8), .val (.ref b12), .unset, .unset, .unset, .unset, .unset] [(.int p3), (.int v8)])) t
        refine XS.bipush X27.here hx rfl (hb hby at_329) ?_
        show Steps p.tables e below (T27.setTop (mkF m 331 #[.val (.long q0), .second, .val (.long q1), .second, .val (.int p2), .val (.int p3), .val (.int p4), .val (.int v8), .val (.ref b12), .unset, .unset, .unset, .unset, .unset] [(.int (15 : Int32)), (.int p3), (.int v8)])) t
        refine XS.iand X27.here hx rfl (hb hby at_331) rfl ?_
        show Steps p.tables e below (T27.setTop (mkF m 332 #[.val (.long q0), .second, .val (.long q1), .second, .val (.int p2), .val (.int p3), .val (.int p4), .val (.int v8), .val (.ref b12), .unset, .unset, .unset, .unset, .unset] [(.int (p3 &&& (15 : Int32))), (.int v8)])) t
        refine XS.iadd X27.here hx rfl (hb hby at_332) rfl ?_
        show Steps p.tables e below (T27.setTop (mkF m 333 #[.val (.long q0), .second, .val (.long q1), .second, .val (.int p2), .val (.int p3), .val (.int p4), .val (.int v8), .val (.ref b12), .unset, .unset, .unset, .unset, .unset] [(.int (v8 + (p3 &&& (15 : Int32))))])) t
        refine XS.iconst X27.here hx rfl (hb hby at_333) ?_
        show Steps p.tables e below (T27.setTop (mkF m 334 #[.val (.long q0), .second, .val (.long q1), .second, .val (.int p2), .val (.int p3), .val (.int p4), .val (.int v8), .val (.ref b12), .unset, .unset, .unset, .unset, .unset] [(.int (4 : Int32)), (.int (v8 + (p3 &&& (15 : Int32))))])) t
        refine XS.isub X27.here hx rfl (hb hby at_334) rfl ?_
        exact kt
      exact ⟨_, (if_pos hc317).symm, K29⟩
    · have K30 : ∀ t, Steps p.tables e below (T27.setTop (mkF m 335 #[.val (.long q0), .second, .val (.long q1), .second, .val (.int p2), .val (.int p3), .val (.int p4), .val (.int v8), .val (.ref b12), .unset, .unset, .unset, .unset, .unset] [(.int p3)])) t → P0 t := by
        intro t kt
        refine K28 t ?_
        show Steps p.tables e below (T27.setTop (mkF m 317 #[.val (.long q0), .second, .val (.long q1), .second, .val (.int p2), .val (.int p3), .val (.int p4), .val (.int v8), .val (.ref b12), .unset, .unset, .unset, .unset, .unset] [(.int (p4 &&& (1 : Int32)))])) t
        refine XS.ifNo X27.here hx rfl (hb hby at_317) rfl ((if0 _ _).trans (feq hc317).1) ?_
        show Steps p.tables e below (T27.setTop (mkF m 320 #[.val (.long q0), .second, .val (.long q1), .second, .val (.int p2), .val (.int p3), .val (.int p4), .val (.int v8), .val (.ref b12), .unset, .unset, .unset, .unset, .unset] [])) t
        refine XS.iload X27.here hx rfl (hb hby at_320) rfl ?_
        show Steps p.tables e below (T27.setTop (mkF m 322 #[.val (.long q0), .second, .val (.long q1), .second, .val (.int p2), .val (.int p3), .val (.int p4), .val (.int v8), .val (.ref b12), .unset, .unset, .unset, .unset, .unset] [(.int p3)])) t
        refine XS.goto X27.here hx rfl (pc0 := 322) (pc' := 335) rfl (hb hby at_322) (by decide) (by decide) ?_
        exact kt
      exact ⟨_, (if_neg hc317).symm, K30⟩
  have K32 : ∀ t, Steps p.tables e below (T27.setTop (mkF m 346 #[.val (.long q0), .second, .val (.long q1), .second, .val (.int p2), .val (.int p3), .val (.int p4), .val (.int v8), .val (.ref b12), .val (.int j335_s0), .val (.long ((j335_s0.toInt64) - (v8.toInt64))), .second, .unset, .unset] [])) t → P0 t := by
    intro t kt
    refine K31 t ?_
    show Steps p.tables e below (T27.setTop (mkF m 335 #[.val (.long q0), .second, .val (.long q1), .second, .val (.int p2), .val (.int p3), .val (.int p4), .val (.int v8), .val (.ref b12), .unset, .unset, .unset, .unset, .unset] [(.int j335_s0)])) t
    refine XS.istore X27.here hx rfl (hb hby at_335) rfl (l' := #[.val (.long q0), .second, .val (.long q1), .second, .val (.int p2), .val (.int p3), .val (.int p4), .val (.int v8), .val (.ref b12), .val (.int j335_s0), .unset, .unset, .unset, .unset]) rfl ?_
    show Steps p.tables e below (T27.setTop (mkF m 337 #[.val (.long q0), .second, .val (.long q1), .second, .val (.int p2), .val (.int p3), .val (.int p4), .val (.int v8), .val (.ref b12), .val (.int j335_s0), .unset, .unset, .unset, .unset] [])) t
    refine XS.iload X27.here hx rfl (hb hby at_337) rfl ?_
    show Steps p.tables e below (T27.setTop (mkF m 339 #[.val (.long q0), .second, .val (.long q1), .second, .val (.int p2), .val (.int p3), .val (.int p4), .val (.int v8), .val (.ref b12), .val (.int j335_s0), .unset, .unset, .unset, .unset] [(.int j335_s0)])) t
    refine XS.i2l X27.here hx rfl (hb hby at_339) rfl ?_
    show Steps p.tables e below (T27.setTop (mkF m 340 #[.val (.long q0), .second, .val (.long q1), .second, .val (.int p2), .val (.int p3), .val (.int p4), .val (.int v8), .val (.ref b12), .val (.int j335_s0), .unset, .unset, .unset, .unset] [(.long (j335_s0.toInt64))])) t
    refine XS.iload X27.here hx rfl (hb hby at_340) rfl ?_
    show Steps p.tables e below (T27.setTop (mkF m 342 #[.val (.long q0), .second, .val (.long q1), .second, .val (.int p2), .val (.int p3), .val (.int p4), .val (.int v8), .val (.ref b12), .val (.int j335_s0), .unset, .unset, .unset, .unset] [(.int v8), (.long (j335_s0.toInt64))])) t
    refine XS.i2l X27.here hx rfl (hb hby at_342) rfl ?_
    show Steps p.tables e below (T27.setTop (mkF m 343 #[.val (.long q0), .second, .val (.long q1), .second, .val (.int p2), .val (.int p3), .val (.int p4), .val (.int v8), .val (.ref b12), .val (.int j335_s0), .unset, .unset, .unset, .unset] [(.long (v8.toInt64)), (.long (j335_s0.toInt64))])) t
    refine XS.lsub X27.here hx rfl (hb hby at_343) rfl ?_
    show Steps p.tables e below (T27.setTop (mkF m 344 #[.val (.long q0), .second, .val (.long q1), .second, .val (.int p2), .val (.int p3), .val (.int p4), .val (.int v8), .val (.ref b12), .val (.int j335_s0), .unset, .unset, .unset, .unset] [(.long ((j335_s0.toInt64) - (v8.toInt64)))])) t
    refine XS.lstore X27.here hx rfl (hb hby at_344) rfl (l' := #[.val (.long q0), .second, .val (.long q1), .second, .val (.int p2), .val (.int p3), .val (.int p4), .val (.int v8), .val (.ref b12), .val (.int j335_s0), .val (.long ((j335_s0.toInt64) - (v8.toInt64))), .second, .unset, .unset]) rfl ?_
    exact kt
  obtain ⟨v344, hv344, K33⟩ : ∃ v344 : Int64, v344 = ((j335_s0.toInt64) - (v8.toInt64)) ∧ ∀ t, Steps p.tables e below (T27.setTop (mkF m 346 #[.val (.long q0), .second, .val (.long q1), .second, .val (.int p2), .val (.int p3), .val (.int p4), .val (.int v8), .val (.ref b12), .val (.int j335_s0), .val (.long v344), .second, .unset, .unset] [])) t → P0 t := ⟨_, rfl, K32⟩
  have K34 : ∀ t, Steps p.tables e below (T27.setTop (mkF m 350 #[.val (.long q0), .second, .val (.long q1), .second, .val (.int p2), .val (.int p3), .val (.int p4), .val (.int v8), .val (.ref b12), .val (.int j335_s0), .val (.long v344), .second, .unset, .unset] [(.int (lcmpW v344 (0 : Int64)))])) t → P0 t := by
    intro t kt
    refine K33 t ?_
    show Steps p.tables e below (T27.setTop (mkF m 346 #[.val (.long q0), .second, .val (.long q1), .second, .val (.int p2), .val (.int p3), .val (.int p4), .val (.int v8), .val (.ref b12), .val (.int j335_s0), .val (.long v344), .second, .unset, .unset] [])) t
    refine XS.lload X27.here hx rfl (hb hby at_346) rfl ?_
    show Steps p.tables e below (T27.setTop (mkF m 348 #[.val (.long q0), .second, .val (.long q1), .second, .val (.int p2), .val (.int p3), .val (.int p4), .val (.int v8), .val (.ref b12), .val (.int j335_s0), .val (.long v344), .second, .unset, .unset] [(.long v344)])) t
    refine XS.lconst X27.here hx rfl (hb hby at_348) ?_
    show Steps p.tables e below (T27.setTop (mkF m 349 #[.val (.long q0), .second, .val (.long q1), .second, .val (.int p2), .val (.int p3), .val (.int p4), .val (.int v8), .val (.ref b12), .val (.int j335_s0), .val (.long v344), .second, .unset, .unset] [(.long (0 : Int64)), (.long v344)])) t
    refine XS.lcmp X27.here hx rfl (hb hby at_349) rfl ?_
    exact kt
  obtain ⟨j393_12_1, hj393_12_1, K41⟩ : ∃ (j393_12_1 : Int64), j393_12_1 = (if (0 : Int64) < v344 then (if v344 < (8 : Int64) then (q0 &&& ((-1 : Int64) <<< ((((64 : Int64) - ((8 : Int64) * v344)).toInt32) &&& 0x3f).toInt64)) else q0) else (0 : Int64)) ∧ ∀ t, Steps p.tables e below (T27.setTop (mkF m 393 #[.val (.long q0), .second, .val (.long q1), .second, .val (.int p2), .val (.int p3), .val (.int p4), .val (.int v8), .val (.ref b12), .val (.int j335_s0), .val (.long v344), .second, .val (.long j393_12_1), .second] [])) t → P0 t := by
    by_cases hc350 : (0 : Int64) < v344
    · have K35 : ∀ t, Steps p.tables e below (T27.setTop (mkF m 365 #[.val (.long q0), .second, .val (.long q1), .second, .val (.int p2), .val (.int p3), .val (.int p4), .val (.int v8), .val (.ref b12), .val (.int j335_s0), .val (.long v344), .second, .unset, .unset] [(.int (lcmpW v344 (8 : Int64)))])) t → P0 t := by
        intro t kt
        refine K34 t ?_
        show Steps p.tables e below (T27.setTop (mkF m 350 #[.val (.long q0), .second, .val (.long q1), .second, .val (.int p2), .val (.int p3), .val (.int p4), .val (.int v8), .val (.ref b12), .val (.int j335_s0), .val (.long v344), .second, .unset, .unset] [(.int (lcmpW v344 (0 : Int64)))])) t
        refine XS.ifYes X27.here hx rfl (pc0 := 350) (pc' := 359) rfl (hb hby at_350) rfl ((if0 _ _).trans (tlt ((lw_gt v344 (0 : Int64)).mpr hc350)).2.2.1) (by decide) (by decide) ?_
        show Steps p.tables e below (T27.setTop (mkF m 359 #[.val (.long q0), .second, .val (.long q1), .second, .val (.int p2), .val (.int p3), .val (.int p4), .val (.int v8), .val (.ref b12), .val (.int j335_s0), .val (.long v344), .second, .unset, .unset] [])) t
        refine XS.lload X27.here hx rfl (hb hby at_359) rfl ?_
        show Steps p.tables e below (T27.setTop (mkF m 361 #[.val (.long q0), .second, .val (.long q1), .second, .val (.int p2), .val (.int p3), .val (.int p4), .val (.int v8), .val (.ref b12), .val (.int j335_s0), .val (.long v344), .second, .unset, .unset] [(.long v344)])) t
        refine X27.ldc2Long hx hown (mvT hZ (hw _ (List.mem_of_getElem? (i := 7) rfl))) (g := (mkF m 361 #[.val (.long q0), .second, .val (.long q1), .second, .val (.int p2), .val (.int p3), .val (.int p4), .val (.int v8), .val (.ref b12), .val (.int j335_s0), .val (.long v344), .second, .unset, .unset] [(.long v344)])) rfl (hb hby at_361) _ ?_
        show Steps p.tables e below (T27.setTop (mkF m 364 #[.val (.long q0), .second, .val (.long q1), .second, .val (.int p2), .val (.int p3), .val (.int p4), .val (.int v8), .val (.ref b12), .val (.int j335_s0), .val (.long v344), .second, .unset, .unset] [(.long (8 : Int64)), (.long v344)])) t
        refine XS.lcmp X27.here hx rfl (hb hby at_364) rfl ?_
        exact kt
      obtain ⟨j393_12, hj393_12, K39⟩ : ∃ (j393_12 : Int64), j393_12 = (if v344 < (8 : Int64) then (q0 &&& ((-1 : Int64) <<< ((((64 : Int64) - ((8 : Int64) * v344)).toInt32) &&& 0x3f).toInt64)) else q0) ∧ ∀ t, Steps p.tables e below (T27.setTop (mkF m 393 #[.val (.long q0), .second, .val (.long q1), .second, .val (.int p2), .val (.int p3), .val (.int p4), .val (.int v8), .val (.ref b12), .val (.int j335_s0), .val (.long v344), .second, .val (.long j393_12), .second] [])) t → P0 t := by
        by_cases hc365 : v344 < (8 : Int64)
        · have K36 : ∀ t, Steps p.tables e below (T27.setTop (mkF m 393 #[.val (.long q0), .second, .val (.long q1), .second, .val (.int p2), .val (.int p3), .val (.int p4), .val (.int v8), .val (.ref b12), .val (.int j335_s0), .val (.long v344), .second, .val (.long (q0 &&& ((-1 : Int64) <<< ((((64 : Int64) - ((8 : Int64) * v344)).toInt32) &&& 0x3f).toInt64))), .second] [])) t → P0 t := by
            intro t kt
            refine K35 t ?_
            show Steps p.tables e below (T27.setTop (mkF m 365 #[.val (.long q0), .second, .val (.long q1), .second, .val (.int p2), .val (.int p3), .val (.int p4), .val (.int v8), .val (.ref b12), .val (.int j335_s0), .val (.long v344), .second, .unset, .unset] [(.int (lcmpW v344 (8 : Int64)))])) t
            refine XS.ifYes X27.here hx rfl (pc0 := 365) (pc' := 374) rfl (hb hby at_365) rfl ((if0 _ _).trans (tlt ((lw_lt v344 (8 : Int64)).mpr hc365)).1) (by decide) (by decide) ?_
            show Steps p.tables e below (T27.setTop (mkF m 374 #[.val (.long q0), .second, .val (.long q1), .second, .val (.int p2), .val (.int p3), .val (.int p4), .val (.int v8), .val (.ref b12), .val (.int j335_s0), .val (.long v344), .second, .unset, .unset] [])) t
            refine XS.lloadN X27.here hx rfl (hb hby at_374) rfl ?_
            show Steps p.tables e below (T27.setTop (mkF m 375 #[.val (.long q0), .second, .val (.long q1), .second, .val (.int p2), .val (.int p3), .val (.int p4), .val (.int v8), .val (.ref b12), .val (.int j335_s0), .val (.long v344), .second, .unset, .unset] [(.long q0)])) t
            refine X27.ldc2Long hx hown (mvT hZ (hw _ (List.mem_of_getElem? (i := 2) rfl))) (g := (mkF m 375 #[.val (.long q0), .second, .val (.long q1), .second, .val (.int p2), .val (.int p3), .val (.int p4), .val (.int v8), .val (.ref b12), .val (.int j335_s0), .val (.long v344), .second, .unset, .unset] [(.long q0)])) rfl (hb hby at_375) _ ?_
            show Steps p.tables e below (T27.setTop (mkF m 378 #[.val (.long q0), .second, .val (.long q1), .second, .val (.int p2), .val (.int p3), .val (.int p4), .val (.int v8), .val (.ref b12), .val (.int j335_s0), .val (.long v344), .second, .unset, .unset] [(.long (-1 : Int64)), (.long q0)])) t
            refine X27.ldc2Long hx hown (mvT hZ (hw _ (List.mem_of_getElem? (i := 8) rfl))) (g := (mkF m 378 #[.val (.long q0), .second, .val (.long q1), .second, .val (.int p2), .val (.int p3), .val (.int p4), .val (.int v8), .val (.ref b12), .val (.int j335_s0), .val (.long v344), .second, .unset, .unset] [(.long (-1 : Int64)), (.long q0)])) rfl (hb hby at_378) _ ?_
            show Steps p.tables e below (T27.setTop (mkF m 381 #[.val (.long q0), .second, .val (.long q1), .second, .val (.int p2), .val (.int p3), .val (.int p4), .val (.int v8), .val (.ref b12), .val (.int j335_s0), .val (.long v344), .second, .unset, .unset] [(.long (64 : Int64)), (.long (-1 : Int64)), (.long q0)])) t
            refine X27.ldc2Long hx hown (mvT hZ (hw _ (List.mem_of_getElem? (i := 7) rfl))) (g := (mkF m 381 #[.val (.long q0), .second, .val (.long q1), .second, .val (.int p2), .val (.int p3), .val (.int p4), .val (.int v8), .val (.ref b12), .val (.int j335_s0), .val (.long v344), .second, .unset, .unset] [(.long (64 : Int64)), (.long (-1 : Int64)), (.long q0)])) rfl (hb hby at_381) _ ?_
            show Steps p.tables e below (T27.setTop (mkF m 384 #[.val (.long q0), .second, .val (.long q1), .second, .val (.int p2), .val (.int p3), .val (.int p4), .val (.int v8), .val (.ref b12), .val (.int j335_s0), .val (.long v344), .second, .unset, .unset] [(.long (8 : Int64)), (.long (64 : Int64)), (.long (-1 : Int64)), (.long q0)])) t
            refine XS.lload X27.here hx rfl (hb hby at_384) rfl ?_
            show Steps p.tables e below (T27.setTop (mkF m 386 #[.val (.long q0), .second, .val (.long q1), .second, .val (.int p2), .val (.int p3), .val (.int p4), .val (.int v8), .val (.ref b12), .val (.int j335_s0), .val (.long v344), .second, .unset, .unset] [(.long v344), (.long (8 : Int64)), (.long (64 : Int64)), (.long (-1 : Int64)), (.long q0)])) t
            refine XS.lmul X27.here hx rfl (hb hby at_386) rfl ?_
            show Steps p.tables e below (T27.setTop (mkF m 387 #[.val (.long q0), .second, .val (.long q1), .second, .val (.int p2), .val (.int p3), .val (.int p4), .val (.int v8), .val (.ref b12), .val (.int j335_s0), .val (.long v344), .second, .unset, .unset] [(.long ((8 : Int64) * v344)), (.long (64 : Int64)), (.long (-1 : Int64)), (.long q0)])) t
            refine XS.lsub X27.here hx rfl (hb hby at_387) rfl ?_
            show Steps p.tables e below (T27.setTop (mkF m 388 #[.val (.long q0), .second, .val (.long q1), .second, .val (.int p2), .val (.int p3), .val (.int p4), .val (.int v8), .val (.ref b12), .val (.int j335_s0), .val (.long v344), .second, .unset, .unset] [(.long ((64 : Int64) - ((8 : Int64) * v344))), (.long (-1 : Int64)), (.long q0)])) t
            refine XS.l2i X27.here hx rfl (hb hby at_388) rfl ?_
            show Steps p.tables e below (T27.setTop (mkF m 389 #[.val (.long q0), .second, .val (.long q1), .second, .val (.int p2), .val (.int p3), .val (.int p4), .val (.int v8), .val (.ref b12), .val (.int j335_s0), .val (.long v344), .second, .unset, .unset] [(.int (((64 : Int64) - ((8 : Int64) * v344)).toInt32)), (.long (-1 : Int64)), (.long q0)])) t
            refine XS.lshl X27.here hx rfl (hb hby at_389) rfl ?_
            show Steps p.tables e below (T27.setTop (mkF m 390 #[.val (.long q0), .second, .val (.long q1), .second, .val (.int p2), .val (.int p3), .val (.int p4), .val (.int v8), .val (.ref b12), .val (.int j335_s0), .val (.long v344), .second, .unset, .unset] [(.long ((-1 : Int64) <<< ((((64 : Int64) - ((8 : Int64) * v344)).toInt32) &&& 0x3f).toInt64)), (.long q0)])) t
            refine XS.land X27.here hx rfl (hb hby at_390) rfl ?_
            show Steps p.tables e below (T27.setTop (mkF m 391 #[.val (.long q0), .second, .val (.long q1), .second, .val (.int p2), .val (.int p3), .val (.int p4), .val (.int v8), .val (.ref b12), .val (.int j335_s0), .val (.long v344), .second, .unset, .unset] [(.long (q0 &&& ((-1 : Int64) <<< ((((64 : Int64) - ((8 : Int64) * v344)).toInt32) &&& 0x3f).toInt64)))])) t
            refine XS.lstore X27.here hx rfl (hb hby at_391) rfl (l' := #[.val (.long q0), .second, .val (.long q1), .second, .val (.int p2), .val (.int p3), .val (.int p4), .val (.int v8), .val (.ref b12), .val (.int j335_s0), .val (.long v344), .second, .val (.long (q0 &&& ((-1 : Int64) <<< ((((64 : Int64) - ((8 : Int64) * v344)).toInt32) &&& 0x3f).toInt64))), .second]) rfl ?_
            exact kt
          obtain ⟨v391, hv391, K37⟩ : ∃ v391 : Int64, v391 = (q0 &&& ((-1 : Int64) <<< ((((64 : Int64) - ((8 : Int64) * v344)).toInt32) &&& 0x3f).toInt64)) ∧ ∀ t, Steps p.tables e below (T27.setTop (mkF m 393 #[.val (.long q0), .second, .val (.long q1), .second, .val (.int p2), .val (.int p3), .val (.int p4), .val (.int v8), .val (.ref b12), .val (.int j335_s0), .val (.long v344), .second, .val (.long v391), .second] [])) t → P0 t := ⟨_, rfl, K36⟩
          subst hv391
          exact ⟨_, (if_pos hc365).symm, K37⟩
        · have K38 : ∀ t, Steps p.tables e below (T27.setTop (mkF m 393 #[.val (.long q0), .second, .val (.long q1), .second, .val (.int p2), .val (.int p3), .val (.int p4), .val (.int v8), .val (.ref b12), .val (.int j335_s0), .val (.long v344), .second, .val (.long q0), .second] [])) t → P0 t := by
            intro t kt
            refine K35 t ?_
            show Steps p.tables e below (T27.setTop (mkF m 365 #[.val (.long q0), .second, .val (.long q1), .second, .val (.int p2), .val (.int p3), .val (.int p4), .val (.int v8), .val (.ref b12), .val (.int j335_s0), .val (.long v344), .second, .unset, .unset] [(.int (lcmpW v344 (8 : Int64)))])) t
            refine XS.ifNo X27.here hx rfl (hb hby at_365) rfl ((if0 _ _).trans (flt (fun q => hc365 ((lw_lt v344 (8 : Int64)).mp q))).1) ?_
            show Steps p.tables e below (T27.setTop (mkF m 368 #[.val (.long q0), .second, .val (.long q1), .second, .val (.int p2), .val (.int p3), .val (.int p4), .val (.int v8), .val (.ref b12), .val (.int j335_s0), .val (.long v344), .second, .unset, .unset] [])) t
            refine XS.lloadN X27.here hx rfl (hb hby at_368) rfl ?_
            show Steps p.tables e below (T27.setTop (mkF m 369 #[.val (.long q0), .second, .val (.long q1), .second, .val (.int p2), .val (.int p3), .val (.int p4), .val (.int v8), .val (.ref b12), .val (.int j335_s0), .val (.long v344), .second, .unset, .unset] [(.long q0)])) t
            refine XS.lstore X27.here hx rfl (hb hby at_369) rfl (l' := #[.val (.long q0), .second, .val (.long q1), .second, .val (.int p2), .val (.int p3), .val (.int p4), .val (.int v8), .val (.ref b12), .val (.int j335_s0), .val (.long v344), .second, .val (.long q0), .second]) rfl ?_
            show Steps p.tables e below (T27.setTop (mkF m 371 #[.val (.long q0), .second, .val (.long q1), .second, .val (.int p2), .val (.int p3), .val (.int p4), .val (.int v8), .val (.ref b12), .val (.int j335_s0), .val (.long v344), .second, .val (.long q0), .second] [])) t
            refine XS.goto X27.here hx rfl (pc0 := 371) (pc' := 393) rfl (hb hby at_371) (by decide) (by decide) ?_
            exact kt
          exact ⟨_, (if_neg hc365).symm, K38⟩
      subst hj393_12
      exact ⟨_, (if_pos hc350).symm, K39⟩
    · have K40 : ∀ t, Steps p.tables e below (T27.setTop (mkF m 393 #[.val (.long q0), .second, .val (.long q1), .second, .val (.int p2), .val (.int p3), .val (.int p4), .val (.int v8), .val (.ref b12), .val (.int j335_s0), .val (.long v344), .second, .val (.long (0 : Int64)), .second] [])) t → P0 t := by
        intro t kt
        refine K34 t ?_
        show Steps p.tables e below (T27.setTop (mkF m 350 #[.val (.long q0), .second, .val (.long q1), .second, .val (.int p2), .val (.int p3), .val (.int p4), .val (.int v8), .val (.ref b12), .val (.int j335_s0), .val (.long v344), .second, .unset, .unset] [(.int (lcmpW v344 (0 : Int64)))])) t
        refine XS.ifNo X27.here hx rfl (hb hby at_350) rfl ((if0 _ _).trans (flt (fun q => hc350 ((lw_gt v344 (0 : Int64)).mp q))).2.2.1) ?_
        show Steps p.tables e below (T27.setTop (mkF m 353 #[.val (.long q0), .second, .val (.long q1), .second, .val (.int p2), .val (.int p3), .val (.int p4), .val (.int v8), .val (.ref b12), .val (.int j335_s0), .val (.long v344), .second, .unset, .unset] [])) t
        refine XS.lconst X27.here hx rfl (hb hby at_353) ?_
        show Steps p.tables e below (T27.setTop (mkF m 354 #[.val (.long q0), .second, .val (.long q1), .second, .val (.int p2), .val (.int p3), .val (.int p4), .val (.int v8), .val (.ref b12), .val (.int j335_s0), .val (.long v344), .second, .unset, .unset] [(.long (0 : Int64))])) t
        refine XS.lstore X27.here hx rfl (hb hby at_354) rfl (l' := #[.val (.long q0), .second, .val (.long q1), .second, .val (.int p2), .val (.int p3), .val (.int p4), .val (.int v8), .val (.ref b12), .val (.int j335_s0), .val (.long v344), .second, .val (.long (0 : Int64)), .second]) rfl ?_
        show Steps p.tables e below (T27.setTop (mkF m 356 #[.val (.long q0), .second, .val (.long q1), .second, .val (.int p2), .val (.int p3), .val (.int p4), .val (.int v8), .val (.ref b12), .val (.int j335_s0), .val (.long v344), .second, .val (.long (0 : Int64)), .second] [])) t
        refine XS.goto X27.here hx rfl (pc0 := 356) (pc' := 393) rfl (hb hby at_356) (by decide) (by decide) ?_
        exact kt
      exact ⟨_, (if_neg hc350).symm, K40⟩
  obtain ⟨_, _, ⟨T42, L42, k42, n42⟩, -, X42, ⟨Lc42, hQ42, l42, y42, z42⟩, st42⟩ := Jvm.LawKit.callS X27 hx (y := (⟨"com/example/termwright/termwright/TermIndex$Runs", "prefix", "([BII)J"⟩ : MethodName)) hown (mvT hZ (hw _ (List.mem_of_getElem? (i := 3) rfl))) (mvT hZ (hw _ (List.mem_of_getElem? (i := 4) rfl))) (mvT hZ (hw _ (List.mem_of_getElem? (i := 5) rfl))) (mvT hZ (hw _ (List.mem_of_getElem? (i := 6) rfl))) (by decide) (backOf (W := 0) (rm_pre l Z a0 hw [] b12 v8 j335_s0 f312 h27 n0 Z27 V27' (own_hin hv8)) hZ (hw _ (List.mem_of_getElem? (i := 6) rfl)) (hw _ (List.mem_of_getElem? (i := 5) rfl)) (by decide) (by decide)) (g := (mkF m 399 #[.val (.long q0), .second, .val (.long q1), .second, .val (.int p2), .val (.int p3), .val (.int p4), .val (.int v8), .val (.ref b12), .val (.int j335_s0), .val (.long v344), .second, .val (.long j393_12_1), .second] [(.int j335_s0), (.int v8), (.ref b12)])) rfl (by rw [hml]; rfl) (argsL := [(.ref b12), (.int v8), (.int j335_s0)]) (rest := []) (lenOf law_pd0 rfl) rfl (by show 2 * 0 + _ ≤ _; exact Nat.le_of_eq rfl) (hb hby at_399) (fun _ _ => ⟨rfl, e27, (by decide : 1 + 0 ≤ _), (by decide : 16 + 0 ≤ _)⟩)
  dsimp only [Pt.U, Pt.locs, Pt.cells, Pt.slots] at X42 l42 y42 z42 st42 hQ42
  rw [l42, y42, z42] at X42
  obtain ⟨rfl, N42q, e42⟩ := hQ42
  have N42 := Fr.app N27 N42q
  have K43 : ∀ t, Steps p.tables e below (T42.setTop (mkF m 405 #[.val (.long q0), .second, .val (.long q1), .second, .val (.int p2), .val (.int p3), .val (.int p4), .val (.int v8), .val (.ref b12), .val (.int j335_s0), .val (.long v344), .second, .val (.long j393_12_1), .second] [(.int (lcmpW (fPre v8 j335_s0 f312) j393_12_1))])) t → P0 t := by
    intro t kt
    refine K41 t ?_
    show Steps p.tables e below (T27.setTop (mkF m 393 #[.val (.long q0), .second, .val (.long q1), .second, .val (.int p2), .val (.int p3), .val (.int p4), .val (.int v8), .val (.ref b12), .val (.int j335_s0), .val (.long v344), .second, .val (.long j393_12_1), .second] [])) t
    refine XS.aload X27.here hx rfl (hb hby at_393) rfl rfl ?_
    show Steps p.tables e below (T27.setTop (mkF m 395 #[.val (.long q0), .second, .val (.long q1), .second, .val (.int p2), .val (.int p3), .val (.int p4), .val (.int v8), .val (.ref b12), .val (.int j335_s0), .val (.long v344), .second, .val (.long j393_12_1), .second] [(.ref b12)])) t
    refine XS.iload X27.here hx rfl (hb hby at_395) rfl ?_
    show Steps p.tables e below (T27.setTop (mkF m 397 #[.val (.long q0), .second, .val (.long q1), .second, .val (.int p2), .val (.int p3), .val (.int p4), .val (.int v8), .val (.ref b12), .val (.int j335_s0), .val (.long v344), .second, .val (.long j393_12_1), .second] [(.int v8), (.ref b12)])) t
    refine XS.iload X27.here hx rfl (hb hby at_397) rfl ?_
    show Steps p.tables e below (T27.setTop (mkF m 399 #[.val (.long q0), .second, .val (.long q1), .second, .val (.int p2), .val (.int p3), .val (.int p4), .val (.int v8), .val (.ref b12), .val (.int j335_s0), .val (.long v344), .second, .val (.long j393_12_1), .second] [(.int j335_s0), (.int v8), (.ref b12)])) t
    refine st42 _ ?_
    show Steps p.tables e below (T42.setTop (mkF m 402 #[.val (.long q0), .second, .val (.long q1), .second, .val (.int p2), .val (.int p3), .val (.int p4), .val (.int v8), .val (.ref b12), .val (.int j335_s0), .val (.long v344), .second, .val (.long j393_12_1), .second] [(.long (fPre v8 j335_s0 f312))])) t
    refine XS.lload X42.here hx rfl (hb hby at_402) rfl ?_
    show Steps p.tables e below (T42.setTop (mkF m 404 #[.val (.long q0), .second, .val (.long q1), .second, .val (.int p2), .val (.int p3), .val (.int p4), .val (.int v8), .val (.ref b12), .val (.int j335_s0), .val (.long v344), .second, .val (.long j393_12_1), .second] [(.long j393_12_1), (.long (fPre v8 j335_s0 f312))])) t
    refine XS.lcmp X42.here hx rfl (hb hby at_404) rfl ?_
    exact kt
  obtain ⟨j413_s0, hj413_s0, K46⟩ : ∃ (j413_s0 : Int32), j413_s0 = (if (fPre v8 j335_s0 f312) = j393_12_1 then (1 : Int32) else (0 : Int32)) ∧ ∀ t, Steps p.tables e below (T42.setTop (mkF m 413 #[.val (.long q0), .second, .val (.long q1), .second, .val (.int p2), .val (.int p3), .val (.int p4), .val (.int v8), .val (.ref b12), .val (.int j335_s0), .val (.long v344), .second, .val (.long j393_12_1), .second] [(.int j413_s0)])) t → P0 t := by
    by_cases hc405 : (fPre v8 j335_s0 f312) = j393_12_1
    · have K44 : ∀ t, Steps p.tables e below (T42.setTop (mkF m 413 #[.val (.long q0), .second, .val (.long q1), .second, .val (.int p2), .val (.int p3), .val (.int p4), .val (.int v8), .val (.ref b12), .val (.int j335_s0), .val (.long v344), .second, .val (.long j393_12_1), .second] [(.int (1 : Int32))])) t → P0 t := by
        intro t kt
        refine K43 t ?_
        show Steps p.tables e below (T42.setTop (mkF m 405 #[.val (.long q0), .second, .val (.long q1), .second, .val (.int p2), .val (.int p3), .val (.int p4), .val (.int v8), .val (.ref b12), .val (.int j335_s0), .val (.long v344), .second, .val (.long j393_12_1), .second] [(.int (lcmpW (fPre v8 j335_s0 f312) j393_12_1))])) t
        refine XS.ifNo X42.here hx rfl (hb hby at_405) rfl ((if0 _ _).trans (teq ((lw_eq (fPre v8 j335_s0 f312) j393_12_1).mpr hc405)).2) ?_
        show Steps p.tables e below (T42.setTop (mkF m 408 #[.val (.long q0), .second, .val (.long q1), .second, .val (.int p2), .val (.int p3), .val (.int p4), .val (.int v8), .val (.ref b12), .val (.int j335_s0), .val (.long v344), .second, .val (.long j393_12_1), .second] [])) t
        refine XS.iconst X42.here hx rfl (hb hby at_408) ?_
        show Steps p.tables e below (T42.setTop (mkF m 409 #[.val (.long q0), .second, .val (.long q1), .second, .val (.int p2), .val (.int p3), .val (.int p4), .val (.int v8), .val (.ref b12), .val (.int j335_s0), .val (.long v344), .second, .val (.long j393_12_1), .second] [(.int (1 : Int32))])) t
        refine XS.goto X42.here hx rfl (pc0 := 409) (pc' := 413) rfl (hb hby at_409) (by decide) (by decide) ?_
        exact kt
      exact ⟨_, (if_pos hc405).symm, K44⟩
    · have K45 : ∀ t, Steps p.tables e below (T42.setTop (mkF m 413 #[.val (.long q0), .second, .val (.long q1), .second, .val (.int p2), .val (.int p3), .val (.int p4), .val (.int v8), .val (.ref b12), .val (.int j335_s0), .val (.long v344), .second, .val (.long j393_12_1), .second] [(.int (0 : Int32))])) t → P0 t := by
        intro t kt
        refine K43 t ?_
        show Steps p.tables e below (T42.setTop (mkF m 405 #[.val (.long q0), .second, .val (.long q1), .second, .val (.int p2), .val (.int p3), .val (.int p4), .val (.int v8), .val (.ref b12), .val (.int j335_s0), .val (.long v344), .second, .val (.long j393_12_1), .second] [(.int (lcmpW (fPre v8 j335_s0 f312) j393_12_1))])) t
        refine XS.ifYes X42.here hx rfl (pc0 := 405) (pc' := 412) rfl (hb hby at_405) rfl ((if0 _ _).trans (feq (fun q => hc405 ((lw_eq (fPre v8 j335_s0 f312) j393_12_1).mp q))).2) (by decide) (by decide) ?_
        show Steps p.tables e below (T42.setTop (mkF m 412 #[.val (.long q0), .second, .val (.long q1), .second, .val (.int p2), .val (.int p3), .val (.int p4), .val (.int v8), .val (.ref b12), .val (.int j335_s0), .val (.long v344), .second, .val (.long j393_12_1), .second] [])) t
        refine XS.iconst X42.here hx rfl (hb hby at_412) ?_
        exact kt
      exact ⟨_, (if_neg hc405).symm, K45⟩
  have hres : j413_s0 = 1 := own_plain q0 q1 p2 p3 p4 v8 f12 f25 f35 f45 f55 f65 f75 f86 f94 f109 f124 f139 f154 f169 f184 f199 f211 f222 f235 f248 f261 f274 f287 f301 f312 j335_s0 v344 j393_12_1 j413_s0 hv8 hf12 hf25 hf35 hf45 hf55 hf65 hf75 hf86 hf94 hf109 hf124 hf139 hf154 hf169 hf184 hf199 hf211 hf222 hf235 hf248 hf261 hf274 hf287 hf301 hf312 hj335_s0 hv344 hj393_12_1 hj413_s0
  obtain ⟨fs, hr, hrun, hended, hW, hsame⟩ := X42.leave (v := some (.int (1 : Int32))) (fun h => by rw [Bd.returns] at h; cases h)
  refine ⟨_, _, ?_, hrun, hended, _, _, rfl, ?_, ⟨_, rfl⟩, hW, hsame.mono (by decide) (by decide)⟩
  · rw [hres] at K46
    have q := K46 _ (retN X42 hx (t := .boolean) Bd.returns (by simp) (hb hby at_413) hr)
    rw [hP0] at q; exact q
  · exact ⟨rfl, N42⟩
set_option maxRecDepth 65536 in
set_option maxHeartbeats 40000000 in
theorem comes_1 {Post : Tables → Env → Array Value → State → Outcome → State → Prop} (hpost : ∀ tb e args s v u, (limb_1_1.after args s (.returned v) u = true ∧ limb_1_2.after args s (.returned v) u = true ∧ True) → FrameEnd s (.returned v) u (Jvm.fieldLocs frame_1_writes args s ++ Jvm.arrayLocs frame_1_arrays args s ++ Jvm.staticLocs frame_1_statics s) 16 128 → Post tb e args s (.returned v) u) :
    ArmFor flags0 classFile x code maxLocals ret World_1 tables_1 room_1 Calls_1 rest_1 Pre_1 Post := by
  intro l hfl _ _ p e ha hc hk s m args below hf hA hF happ hP
  obtain ⟨hcalls, hrest, hpre⟩ := hP
  obtain ⟨-, -, -, hnamed, -, -, -, hat⟩ := (Spec.applies_iff hf).mp happ
  obtain ⟨hg, hn⟩ := and_e (Cond.before_iff.mp (show (Jvm.Cond.and given_1 narrow_1).before args s = true from hpre))
  obtain ⟨gc, gr0⟩ := and_e hg
  obtain ⟨ga0, gr1⟩ := and_e gr0
  obtain ⟨ga1, gr2⟩ := and_e gr1
  obtain ⟨ga2, gr3⟩ := and_e gr2
  obtain ⟨ga3, gr4⟩ := and_e gr3
  obtain ⟨w0, w1, w2, w3, w4, rfl⟩ : ∃ w0 w1 w2 w3 w4 : Value, args = #[w0, w1, w2, w3, w4] := by
    have hs : args.size = 5 := by simpa [Cond.value, given_1] using gc
    obtain ⟨L⟩ := args
    match L, hs with
    | [w0, w1, w2, w3, w4], _ => exact ⟨w0, w1, w2, w3, w4, rfl⟩
  have hw := fun d (hd : d ∈ tables_1) => atoms_spec (ws := Jvm.Cond.code x code maxLocals ret :: tables_1) hat d (List.mem_cons_of_mem _ hd)
  obtain ⟨i0, ei0⟩ := isL_v ga0
  obtain rfl : w0 = (.long i0) := Option.some.inj ei0
  obtain ⟨i1, ei1⟩ := isL_v ga1
  obtain rfl : w1 = (.long i1) := Option.some.inj ei1
  obtain ⟨i2, ei2⟩ := is_v ga2
  obtain rfl : w2 = (.int i2) := Option.some.inj ei2
  obtain ⟨i3, ei3⟩ := is_v ga3
  obtain rfl : w3 = (.int i3) := Option.some.inj ei3
  obtain ⟨i4, ei4⟩ := is_v gr4
  obtain rfl : w4 = (.int i4) := Option.some.inj ei4
  obtain ⟨n, o, h1, h2, h3, _, L, rfl, ⟨rfl, N⟩, hq⟩ := rm_law l s _ hw tables_1 i0 i1 i2 i3 i4 s.heap s.heap.size (Nat.le_refl _) p e ha hc hk s m _ below hf ((Spec.applies_iff_loose hf).mp happ).1 ⟨rfl, State.Warmed39.refl s, rfl⟩ trivial
  refine ⟨n, _, h1, h2, h3, hpost _ _ _ _ _ _ ⟨Cond.after_iff.mpr rfl, Cond.after_iff.mpr (eq_i res_at (Term.int_eval (1)) rfl), trivial⟩ ⟨hq.1, hq.2.1, (hq.2.2.sift fun y hy => Or.inr (N y hy)).mono (by decide) (by decide)⟩⟩
theorem main_1_1 : Claimed_1_1 := comes_1 fun _ _ _ _ _ _ h hF => ⟨h.1, hF⟩
theorem main_1_2 : Claimed_1_2 := comes_1 fun _ _ _ _ _ _ h hF => ⟨h.2.1, hF⟩
end Jvm.Pilot.@@N@@
namespace Jvm.Pilot.@@N@@
open Jvm Jvm.ClassFile Sem Op Lib Jvm.Free Jvm.Stand Jvm.Pilot.@@N@@.Jvm.D
/-! MADE BY PROGRAM (witnessworld.py) out of the Statement's table words and the real class files: 10 classes; the members and pool entries that the words name. The judged class is class 1, her method 1. -/
namespace start1
open Jvm.ClassFile
def u (s : String) : CpInfo := .utf8 (stringToUtf16 s)
/-- a pool by its gaps: so many unusable entries, then the entry; so many at the end -/
def gap : Nat → List CpInfo → List CpInfo
  | 0, r => r
  | n + 1, r => .unusable :: gap n r
def poolList (es : List (Nat × CpInfo)) (last : Nat) : List CpInfo := es.foldr (fun e r => gap e.1 (e.2 :: r)) (gap last [])
def pool (es : List (Nat × CpInfo)) (last : Nat) : Array CpInfo := ⟨poolList es last⟩
def fileOf (pool : Array CpInfo) (this : Nat) (attrs : Array Attribute := #[]) (ms : Array MethodInfo := #[]) (fl : Nat := 33) (sup : Nat := 0) (ifs : Array Nat := #[]) (fds : Array FieldInfo := #[]) : ClassFile where
  minorVersion := 0
  majorVersion := 65
  constantPool := pool
  accessFlags := fl
  thisClass := this
  superClass := sup
  interfaces := ifs
  fields := fds
  methods := ms
  attributes := attrs
def plain (name : String) (sup : Option ClassId) : Class where
  name := name
  kind := .ordinary
  loader := none
  accessFlags := 33
  super := sup
  interfaces := #[]
  cf := none
  fields := #[]
  methods := #[]
  instanceTypes := #[]
  staticTypes := #[]
  resolved := #[]
  callSites := []
  init := .initialized
  statics := none
  mirror := none

def pool0 : Array CpInfo := pool [(5, u "<init>"), (0, u "()V"), (1, .class_ 10), (1, u "java/lang/Object")] 113

def k0m0 : Method := { name := "<init>", desc := "()V", sig := { parameters := [], returnType := none }, accessFlags := 1, code := none }
/-- java/lang/Object -/
def k0 : Class := { plain "java/lang/Object" none with
  accessFlags := 33
  interfaces := #[]
  cf := some (fileOf pool0 8 #[] #[{ accessFlags := 1, nameIndex := 5, descriptorIndex := 6, attributes := #[] }] 33 0 #[] #[])
  fields := #[]
  methods := #[k0m0]
  instanceTypes := #[]
  staticTypes := #[]
  resolved := Array.replicate 124 none
  statics := none }

def pool1 : Array CpInfo := pool [(2, .class_ 4), (1, u "java/lang/Object"), (0, u "<init>"), (0, u "()V"), (0, .integer 2147483647), (0, .long 18446744073709551615), (1, .long 8), (1, .long 64), (1, .methodref 15 16), (0, .class_ 17), (0, .nameAndType 18 19), (0, u "com/example/termwright/termwright/TermIndex$Runs"), (0, u "prefix"), (0, u "([BII)J"), (0, .class_ 21), (0, u "com/example/termwright/termwright/RunsPrefixPinLaw"), (2, u "law"), (0, u "(JJIII)Z")] 9

def k1m0 : Method := { name := "<init>", desc := "()V", sig := { parameters := [], returnType := none }, accessFlags := 1, code := none }
def k1c1 : Code := { maxStack := 10, maxLocals := 14, code := code, exceptionTable := #[], attributes := #[] }
def k1m1 : Method := { name := "law", desc := "(JJIII)Z", sig := { parameters := [.long, .long, .int, .int, .int], returnType := some .boolean }, accessFlags := 9, code := some k1c1 }
/-- com/example/termwright/termwright/RunsPrefixPinLaw -/
def k1 : Class := { plain "com/example/termwright/termwright/RunsPrefixPinLaw" (some 0) with
  accessFlags := 49
  interfaces := #[]
  cf := some (fileOf pool1 20 #[] #[{ accessFlags := 1, nameIndex := 5, descriptorIndex := 6, attributes := #[] }, { accessFlags := 9, nameIndex := 24, descriptorIndex := 25, attributes := #[] }] 49 2 #[] #[])
  fields := #[]
  methods := #[k1m0, k1m1]
  instanceTypes := #[]
  staticTypes := #[]
  resolved := Array.replicate 35 none
  statics := none }

def pool2 : Array CpInfo := pool [(2, .class_ 4), (1, u "java/lang/Object"), (0, u "<init>"), (0, u "()V"), (0, .class_ 8), (0, u "java/lang/Record")] 13

def k2m0 : Method := { name := "<init>", desc := "()V", sig := { parameters := [], returnType := none }, accessFlags := 4, code := none }
/-- java/lang/Record -/
def k2 : Class := { plain "java/lang/Record" (some 0) with
  accessFlags := 1057
  interfaces := #[]
  cf := some (fileOf pool2 7 #[] #[{ accessFlags := 4, nameIndex := 5, descriptorIndex := 6, attributes := #[] }] 1057 2 #[] #[])
  fields := #[]
  methods := #[k2m0]
  instanceTypes := #[]
  staticTypes := #[]
  resolved := Array.replicate 22 none
  statics := none }

def pool3 : Array CpInfo := pool [(2, .class_ 4), (1, u "java/lang/Record"), (3, .class_ 10), (1, u "com/example/termwright/termwright/TermIndex$Runs"), (0, u "firstTerms"), (0, u "[B"), (2, u "firstTermEnds"), (0, u "[I"), (2, u "prefixes"), (0, u "[J"), (2, u "starts"), (2, u "prefix"), (0, u "([BII)J"), (49, .class_ 78), (0, u "com/example/termwright/termwright/TermIndex")] 22

def k3c0 : Code := { maxStack := 5, maxLocals := 6, code := prog_161_method_6_code, exceptionTable := #[], attributes := #[] }
def k3m0 : Method := { name := "prefix", desc := "([BII)J", sig := { parameters := [(.array .byte), .int, .int], returnType := some .long }, accessFlags := 8, code := some k3c0 }
/-- com/example/termwright/termwright/TermIndex$Runs -/
def k3 : Class := { plain "com/example/termwright/termwright/TermIndex$Runs" (some 2) with
  accessFlags := 48
  interfaces := #[]
  cf := some (fileOf pool3 8 #[.nestHost 77] #[{ accessFlags := 8, nameIndex := 26, descriptorIndex := 27, attributes := #[] }] 48 2 #[] #[{ accessFlags := 18, nameIndex := 11, descriptorIndex := 12, attributes := #[] }, { accessFlags := 18, nameIndex := 15, descriptorIndex := 16, attributes := #[] }, { accessFlags := 18, nameIndex := 19, descriptorIndex := 20, attributes := #[] }, { accessFlags := 18, nameIndex := 23, descriptorIndex := 20, attributes := #[] }])
  fields := #[{ name := "firstTerms", type := (.array .byte), accessFlags := 18, slot := 0, constantValue := 0 }, { name := "firstTermEnds", type := (.array .int), accessFlags := 18, slot := 1, constantValue := 0 }, { name := "prefixes", type := (.array .long), accessFlags := 18, slot := 2, constantValue := 0 }, { name := "starts", type := (.array .long), accessFlags := 18, slot := 3, constantValue := 0 }]
  methods := #[k3m0]
  instanceTypes := #[(.array .byte), (.array .int), (.array .long), (.array .long)]
  staticTypes := #[]
  resolved := Array.replicate 101 none
  statics := none }

def pool4 : Array CpInfo := pool [(1, u "java/lang/Cloneable"), (0, .class_ 1), (0, u "java/lang/Object"), (0, .class_ 3)] 3

/-- java/lang/Cloneable -/
def k4 : Class := { plain "java/lang/Cloneable" (some 0) with
  accessFlags := 1537
  interfaces := #[]
  cf := some (fileOf pool4 2 #[] #[] 1537 4 #[] #[])
  fields := #[]
  methods := #[]
  instanceTypes := #[]
  staticTypes := #[]
  resolved := Array.replicate 8 none
  statics := none }

def pool5 : Array CpInfo := pool [(1, u "java/io/Serializable"), (0, .class_ 1), (0, u "java/lang/Object"), (0, .class_ 3)] 3

/-- java/io/Serializable -/
def k5 : Class := { plain "java/io/Serializable" (some 0) with
  accessFlags := 1537
  interfaces := #[]
  cf := some (fileOf pool5 2 #[] #[] 1537 4 #[] #[])
  fields := #[]
  methods := #[]
  instanceTypes := #[]
  staticTypes := #[]
  resolved := Array.replicate 8 none
  statics := none }

/-- the primitive byte -/
def k6 : Class := { plain "byte" none with kind := .primitive 'B', accessFlags := 0x411 }
/-- [B -/
def k7 : Class := { plain "[B" (some 0) with kind := .array 6 .byte, interfaces := #[4, 5], accessFlags := 1041 }

/-- the primitive int -/
def k8 : Class := { plain "int" none with kind := .primitive 'I', accessFlags := 0x411 }
/-- [I -/
def k9 : Class := { plain "[I" (some 0) with kind := .array 8 .int, interfaces := #[4, 5], accessFlags := 1041 }

def heap : Heap := #[]
def classes : Array Class := #[k0, k1, k2, k3, k4, k5, k6, k7, k8, k9]
def interned : List (Array UInt16 × Addr) := []
def slotsUsed : Nat := 0
def theMethod : MethodId := ⟨1, 1⟩
def args0 : Array Value := #[.long 5, .long 300, .int 7, .int 9, .int 3]
def aboutOver (below : List Frame) : State where
  vm := { classes := classes, interned := interned.toArray }
  heap := heap
  slotsUsed := slotsUsed
  threads := #[{ frames := .invoking theMethod args0 :: below }]
def below0 : List Frame := [.native { method := ⟨0, 0⟩, args := #[] }]
def about1 : State := aboutOver below0
def p0 : Program := .bare "" "" ""
def e0 : Env := launch0.env 0 0 0
theorem w_frames : about1.frames = Frame.invoking theMethod args0 :: below0 := rfl
set_option maxRecDepth 65536 in
theorem w_args : argsFit about1.vm theMethod args0 = true := by decide +kernel
set_option maxRecDepth 65536 in
theorem w_heap : heapFits about1 = true := by decide +kernel
set_option maxRecDepth 65536 in
theorem w_runnable : about1.curStatus? = some .runnable := by decide +kernel
set_option maxRecDepth 65536 in
theorem w_alone : about1.alone = true := by decide +kernel
set_option maxRecDepth 65536 in
theorem w_named : about1.methodNamed? x = some theMethod := by decide +kernel
set_option maxRecDepth 65536 in
theorem w_hears : about1.hears theMethod below0 = true := by decide +kernel
set_option maxRecDepth 65536 in
theorem w_ripe : about1.ripe theMethod args0 below0 = true := by decide +kernel
theorem w_running : about1.status = .running := rfl
set_option maxRecDepth 65536 in
theorem w_room : about1.hasRoom e0.platform room_1 = true :=
  launch0.hasRoom_least _ room_1 (by decide +kernel) (by decide +kernel) (by decide +kernel) (by decide +kernel) (by decide +kernel) (by decide +kernel)
theorem allAtoms_all (ts : List Jvm.Cond) (a : Array Jvm.Value) (st : Jvm.State) : (allAtoms ts).before a st = ts.all (fun c => c.before a st) := by
  induction ts with
  | nil => rfl
  | cons c t ih =>
    show (Jvm.Cond.and c (allAtoms t)).before a st = _
    rw [Jvm.Cond.before_and, ih, List.all_cons]
def words1 : List Jvm.Cond := Jvm.Cond.code x code maxLocals ret :: tables_1
/-- a 'code' word, met by the world's own term for the bytes: nothing is compared byte by byte -/
theorem code_word {y : MethodName} {bytes : ByteArray} {mx : Nat} {rt : Option FieldType} {a : Array Value} {s : State} {m : MethodId} {meth : Method} {c : Code} (h1 : s.methodNamed? y = some m) (h2 : s.vm.method? m = some meth) (h3 : meth.code = some c) (h4 : c.code = bytes)
    (h5 : (c.maxLocals == mx && c.exceptionTable.isEmpty && decide (c.maxStack ≤ mostOperands) && decide (meth.sig.returnType = rt) && !meth.locks && decide (parseMethodDescriptor y.desc = some meth.sig)) = true) : (Jvm.Cond.code y bytes mx rt).before a s = true := by
  simp only [Bool.and_eq_true, beq_iff_eq, Bool.not_eq_true', decide_eq_true_eq] at h5
  obtain ⟨⟨⟨⟨⟨g1, g2⟩, g3⟩, g4⟩, g5⟩, g6⟩ := h5
  simp [Cond.before, Cond.holds, Cond.value, h1, h2, h3, h4, g1, g2, g3, g4, g5, g6]
def isCode : Jvm.Cond → Bool
  | .code _ _ _ _ => true
  | _ => false
theorem all_split {L : List Jvm.Cond} {P : Jvm.Cond → Bool} (h1 : L.all (fun c => isCode c || P c) = true) (h2 : ∀ c ∈ L.filter isCode, P c = true) : L.all P = true := by
  refine List.all_eq_true.mpr fun c hc => ?_
  have h := List.all_eq_true.mp h1 c hc
  rcases Bool.eq_false_or_eq_true (isCode c) with hi | hi
  · exact h2 c (List.mem_filter.mpr ⟨hc, hi⟩)
  · simpa [hi] using h
set_option maxRecDepth 65536 in
theorem w_c0 : (Jvm.Cond.code x code maxLocals ret).before args0 about1 = true := code_word (m := ⟨1, 1⟩) (meth := k1m1) (c := k1c1) (by decide +kernel) rfl rfl rfl (by decide +kernel)
set_option maxRecDepth 65536 in
theorem w_c1 : (Jvm.Cond.code ({ cls := "com/example/termwright/termwright/TermIndex$Runs", name := "prefix", desc := "([BII)J" } : Jvm.MethodName) prog_161_method_6_code (6 : Nat) (Option.some Jvm.ClassFile.FieldType.long)).before args0 about1 = true := code_word (m := ⟨3, 0⟩) (meth := k3m0) (c := k3c0) (by decide +kernel) rfl rfl rfl (by decide +kernel)
def codes1 : List Jvm.Cond := [Jvm.Cond.code x code maxLocals ret, Jvm.Cond.code ({ cls := "com/example/termwright/termwright/TermIndex$Runs", name := "prefix", desc := "([BII)J" } : Jvm.MethodName) prog_161_method_6_code (6 : Nat) (Option.some Jvm.ClassFile.FieldType.long)]
set_option maxRecDepth 65536 in
theorem codes_eq : words1.filter isCode = codes1 := rfl
theorem w_codes : ∀ c ∈ words1.filter isCode, c.before args0 about1 = true := by
  rw [codes_eq]
  intro c hc
  simp only [codes1, List.mem_cons, List.not_mem_nil, or_false] at hc
  rcases hc with rfl | rfl
  · exact w_c0
  · exact w_c1
set_option maxRecDepth 65536 in
theorem w_t1 : words1.all (fun c => isCode c || c.before args0 about1) = true := by decide +kernel
theorem w_tables : (allAtoms (Jvm.Cond.code x code maxLocals ret :: tables_1)).before args0 about1 = true := by
  rw [allAtoms_all]
  show words1.all (fun c => c.before args0 about1) = true
  refine all_split ?_ w_codes
  rw [w_t1]
set_option maxRecDepth 65536 in
theorem w_case : (Jvm.Cond.and given_1 narrow_1).before args0 about1 = true := by decide +kernel
theorem w_applies : (headSpec (Jvm.Cond.code x code maxLocals ret :: tables_1) room_1).applies x e0.platform about1 = true :=
  (Spec.applies_iff w_frames).mpr ⟨w_running, w_runnable, w_alone, w_named, w_hears, w_ripe, w_room, w_tables⟩
theorem atStart : AtStart classFile x code maxLocals ret World_1 tables_1 room_1 Calls_1 rest_1 Pre_1 launch0 p0 e0 about1 theMethod args0 below0 :=
  ⟨lists_1, trivial, launch0.admits_env _ _ _, launch0.least_env, fairChoices_fair.cas, fairChoices_fair.clock, w_frames, w_args, w_heap, w_applies, trivial, trivial, w_case⟩
end start1
theorem witness_1 : WitnessClaimed_1 := ⟨start1.p0, start1.e0, start1.about1, start1.theMethod, start1.args0, start1.below0, start1.atStart⟩
end Jvm.Pilot.@@N@@
