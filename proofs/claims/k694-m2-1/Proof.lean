import JvmDerived
import JvmDerived.Pilot.@@N@@Statement
import JvmDerived.Pilot.@@N@@Code
set_option linter.unusedVariables false
set_option linter.unusedSimpArgs false
namespace Jvm.Pilot.@@N@@
open Jvm Jvm.ClassFile Sem Op Lib Jvm.Free Jvm.Stand Jvm.LawKit Jvm.RoadKit Bundle Jvm.Pilot.@@N@@.Jvm.D
/-! my own small laws: arrays by a function of the place; returns -/
def IA (Z : State) (h : Heap) (a : Addr) (ty : FieldType) (n : Nat) (f : Nat → Int32) : Prop :=
  ∃ c : Cell, Arr Z h a c ty ∧ c.slots.size = n ∧ ∀ j, j < n → c.slots[j]? = some (.int (f j)) ∧ fits ty (.int (f j)) = true
def JA (Z : State) (h : Heap) (a : Addr) (n : Nat) (f : Nat → Int64) : Prop :=
  ∃ c : Cell, Arr Z h a c .long ∧ c.slots.size = n ∧ ∀ j, j < n → c.slots[j]? = some (.long (f j))
def upd (f : Nat → Int32) (i : Nat) (v : Int32) : Nat → Int32 := fun j => if j = i then v else f j
def updJ (f : Nat → Int64) (i : Nat) (v : Int64) : Nat → Int64 := fun j => if j = i then v else f j
def QP (r : Value) (h0 : Heap) (n0 : Nat) (v : Option Value) (h : Heap) (L : List Loc) : Prop := v = some r ∧ Fr n0 L ∧ h = h0
def QL (n0 : Nat) (v : Option Value) (h : Heap) (L : List Loc) : Prop := v = some (.int 1) ∧ Fr n0 L
section Own
variable {p : Program} {l : Launch} {e : Env} {R : Room} {s : State} {m : MethodId} {args : Array Value} {below : List Frame} {meth : Method} {c : Code} {T : State} {locs : List Loc} {cells slots : Nat} {Z : State} {h h' : Heap} {a b : Addr} {ty : FieldType} {n : Nat} {f : Nat → Int32} {fJ : Nat → Int64} {sl : Nat} {v : Value} {wl : List Addr}
theorem IA.lt (F : IA Z h a ty n f) : a < h.size := by obtain ⟨c, A, -⟩ := F; exact A.lt
theorem IA.ext (F : IA Z h a ty n f) (E : Ext h h') : IA Z h' a ty n f := by obtain ⟨c, A, r⟩ := F; exact ⟨c, A.ext E, r⟩
theorem IA.other (F : IA Z h b ty n f) (W : Wr h h' a sl v) (q : b ≠ a) : IA Z h' b ty n f := by obtain ⟨c, A, r⟩ := F; exact ⟨c, A.other W q, r⟩
theorem IA.keep (F : IA Z h a ty n f) (K : Keep h h' wl) (q : a ∉ wl) : IA Z h' a ty n f := by obtain ⟨c, A, r⟩ := F; exact ⟨c, ⟨K.2.1 a c A.1 q, A.2⟩, r⟩
theorem IA.new {k : ClassId} {z : Int32} (A : Arr Z h a (newA k ty z) ty) (hd : defaultValue ty = .int 0) (hf : fits ty (.int 0) = true) (hz : z.toNatClampNeg = n) : IA Z h a ty n (fun _ => 0) := by
  refine ⟨_, A, by rw [sz_new, hz], fun j hj => ⟨?_, hf⟩⟩
  have : j < z.toNatClampNeg := by rw [hz]; exact hj
  simp [newA, hd, this]
theorem IA.set {c : Cell} (A : Arr Z h a c ty) (S : c.slots.size = n) (H : ∀ j, j < n → c.slots[j]? = some (.int (f j)) ∧ fits ty (.int (f j)) = true) {x : Int32} (hv : fits ty (.int x) = true) {i : Nat} (W : Wr h h' a i (.int x)) (hi : i < n) : IA Z h' a ty n (upd f i x) := by
  refine ⟨_, A.same W, by rw [sz_set, S], fun j hj => ?_⟩
  unfold upd
  by_cases q : j = i
  · subst q; simp [Cell.setSlot, S, hi, hv]
  · have := H j hj
    rw [if_neg q]
    refine ⟨?_, this.2⟩
    rw [← this.1]
    show (c.slots.setIfInBounds i (.int x))[j]? = _
    exact Array.getElem?_setIfInBounds_ne (Ne.symm q)
theorem JA.lt (F : JA Z h a n fJ) : a < h.size := by obtain ⟨c, A, -⟩ := F; exact A.lt
theorem JA.ext (F : JA Z h a n fJ) (E : Ext h h') : JA Z h' a n fJ := by obtain ⟨c, A, r⟩ := F; exact ⟨c, A.ext E, r⟩
theorem JA.other (F : JA Z h b n fJ) (W : Wr h h' a sl v) (q : b ≠ a) : JA Z h' b n fJ := by obtain ⟨c, A, r⟩ := F; exact ⟨c, A.other W q, r⟩
theorem JA.keep (F : JA Z h a n fJ) (K : Keep h h' wl) (q : a ∉ wl) : JA Z h' a n fJ := by obtain ⟨c, A, r⟩ := F; exact ⟨c, ⟨K.2.1 a c A.1 q, A.2⟩, r⟩
theorem JA.new {k : ClassId} {z : Int32} (A : Arr Z h a (newA k .long z) .long) (hz : z.toNatClampNeg = n) : JA Z h a n (fun _ => 0) := by
  refine ⟨_, A, by rw [sz_new, hz], fun j hj => ?_⟩
  have : j < z.toNatClampNeg := by rw [hz]; exact hj
  simp [newA, defaultValue, this]
theorem JA.set {c : Cell} (A : Arr Z h a c .long) (S : c.slots.size = n) (H : ∀ j, j < n → c.slots[j]? = some (.long (fJ j))) {x : Int64} {i : Nat} (W : Wr h h' a i (.long x)) (hi : i < n) : JA Z h' a n (updJ fJ i x) := by
  refine ⟨_, A.same W, by rw [sz_set, S], fun j hj => ?_⟩
  unfold updJ
  by_cases q : j = i
  · subst q; simp [Cell.setSlot, S, hi]
  · rw [if_neg q, ← H j hj]
    show (c.slots.setIfInBounds i (.long x))[j]? = _
    exact Array.getElem?_setIfInBounds_ne (Ne.symm q)
theorem stBA (X : Stand p l e R s m args below meth c T locs cells slots) (hx : p.tables.exec = Jvm.exec) (hZ : Z.Warmed39 s.vm) (eT : T.heap = h) (V : IA Z h a .byte n f) {j x : Int32} (hj : ¬ (j < 0 ∨ n ≤ j.toNatClampNeg)) {g : JFrame} (hg : g.method = m) {rest : List Value} (hs : g.stack = .int x :: .int j :: .ref a :: rest) (hd : decode c.code g.pc = .ok (.bastore, 1)) :
    ∃ T' h', Stand p l e R s m args below meth c T' (locs ++ [⟨a, j.toNatClampNeg⟩]) cells slots ∧ T'.heap = h' ∧ (∃ sl v, Wr h h' a sl v) ∧ IA Z h' a .byte n (upd f j.toNatClampNeg (nar .byte x)) ∧ ∀ target, Steps p.tables e below (T'.setTop { g with pc := g.pc + 1, stack := rest }) target → Steps p.tables e below (T.setTop g) target := by
  obtain ⟨cl, A, S, H⟩ := V
  obtain ⟨T', h', X', e', W, st⟩ := stB X hx hZ eT A (j := j) (x := x) (by rw [S]; exact hj) hg hs hd
  exact ⟨T', h', X', e', ⟨_, _, W⟩, IA.set A S H (fits_nar_byte _) W (Nat.lt_of_not_le fun q => hj (Or.inr q)), st⟩
theorem stIA (X : Stand p l e R s m args below meth c T locs cells slots) (hx : p.tables.exec = Jvm.exec) (hZ : Z.Warmed39 s.vm) (eT : T.heap = h) (V : IA Z h a .int n f) {j x : Int32} (hj : ¬ (j < 0 ∨ n ≤ j.toNatClampNeg)) {g : JFrame} (hg : g.method = m) {rest : List Value} (hs : g.stack = .int x :: .int j :: .ref a :: rest) (hd : decode c.code g.pc = .ok (.iastore, 1)) :
    ∃ T' h', Stand p l e R s m args below meth c T' (locs ++ [⟨a, j.toNatClampNeg⟩]) cells slots ∧ T'.heap = h' ∧ (∃ sl v, Wr h h' a sl v) ∧ IA Z h' a .int n (upd f j.toNatClampNeg x) ∧ ∀ target, Steps p.tables e below (T'.setTop { g with pc := g.pc + 1, stack := rest }) target → Steps p.tables e below (T.setTop g) target := by
  obtain ⟨cl, A, S, H⟩ := V
  obtain ⟨T', h', X', e', W, st⟩ := stI X hx hZ eT A (j := j) (x := x) (by rw [S]; exact hj) hg hs hd
  exact ⟨T', h', X', e', ⟨_, _, W⟩, IA.set A S H rfl W (Nat.lt_of_not_le fun q => hj (Or.inr q)), st⟩
theorem stJA (X : Stand p l e R s m args below meth c T locs cells slots) (hx : p.tables.exec = Jvm.exec) (hZ : Z.Warmed39 s.vm) (eT : T.heap = h) (V : JA Z h a n fJ) {j : Int32} {x : Int64} (hj : ¬ (j < 0 ∨ n ≤ j.toNatClampNeg)) {g : JFrame} (hg : g.method = m) {rest : List Value} (hs : g.stack = .long x :: .int j :: .ref a :: rest) (hd : decode c.code g.pc = .ok (.lastore, 1)) :
    ∃ T' h', Stand p l e R s m args below meth c T' (locs ++ [⟨a, j.toNatClampNeg⟩]) cells slots ∧ T'.heap = h' ∧ (∃ sl v, Wr h h' a sl v) ∧ JA Z h' a n (updJ fJ j.toNatClampNeg x) ∧ ∀ target, Steps p.tables e below (T'.setTop { g with pc := g.pc + 1, stack := rest }) target → Steps p.tables e below (T.setTop g) target := by
  obtain ⟨cl, A, S, H⟩ := V
  obtain ⟨T', h', X', e', W, st⟩ := stJ X hx hZ eT A (j := j) (x := x) (by rw [S]; exact hj) hg hs hd
  exact ⟨T', h', X', e', ⟨_, _, W⟩, JA.set A S H W (Nat.lt_of_not_le fun q => hj (Or.inr q)), st⟩
theorem ldBA (X : Stand p l e R s m args below meth c T locs cells slots) (hx : p.tables.exec = Jvm.exec) (hZ : Z.Warmed39 s.vm) (eT : T.heap = h) (V : IA Z h a .byte n f) {j : Int32} (hj : ¬ (j < 0 ∨ n ≤ j.toNatClampNeg)) {g : JFrame} (hg : g.method = m) {rest : List Value} (hs : g.stack = .int j :: .ref a :: rest) (hd : decode c.code g.pc = .ok (.baload, 1)) :
    ∀ target, Steps p.tables e below (T.setTop { g with pc := g.pc + 1, stack := .int (f j.toNatClampNeg) :: rest }) target → Steps p.tables e below (T.setTop g) target := by
  obtain ⟨cl, A, S, H⟩ := V
  exact X.baloadBytes hx (by rw [eT]; exact A.1) (State.isArrayOf_alike hZ.alike A.2.1) A.2.2 (by rw [S]; exact hj) (H _ (Nat.lt_of_not_le fun q => hj (Or.inr q))).1 hg hs hd
theorem ldIA (X : Stand p l e R s m args below meth c T locs cells slots) (hx : p.tables.exec = Jvm.exec) (hZ : Z.Warmed39 s.vm) (eT : T.heap = h) (V : IA Z h a .int n f) {j : Int32} (hj : ¬ (j < 0 ∨ n ≤ j.toNatClampNeg)) {g : JFrame} (hg : g.method = m) {rest : List Value} (hs : g.stack = .int j :: .ref a :: rest) (hd : decode c.code g.pc = .ok (.iaload, 1)) :
    ∀ target, Steps p.tables e below (T.setTop { g with pc := g.pc + 1, stack := .int (f j.toNatClampNeg) :: rest }) target → Steps p.tables e below (T.setTop g) target := by
  obtain ⟨cl, A, S, H⟩ := V
  exact X.iaload hx (by rw [eT]; exact A.1) (State.isArrayOf_alike hZ.alike A.2.1) A.2.2 (by rw [S]; exact hj) (H _ (Nat.lt_of_not_le fun q => hj (Or.inr q))).1 hg hs hd
theorem ldJA (X : Stand p l e R s m args below meth c T locs cells slots) (hx : p.tables.exec = Jvm.exec) (hZ : Z.Warmed39 s.vm) (eT : T.heap = h) (V : JA Z h a n fJ) {j : Int32} (hj : ¬ (j < 0 ∨ n ≤ j.toNatClampNeg)) {g : JFrame} (hg : g.method = m) {rest : List Value} (hs : g.stack = .int j :: .ref a :: rest) (hd : decode c.code g.pc = .ok (.laload, 1)) :
    ∀ target, Steps p.tables e below (T.setTop { g with pc := g.pc + 1, stack := .long (fJ j.toNatClampNeg) :: rest }) target → Steps p.tables e below (T.setTop g) target := by
  obtain ⟨cl, A, S, H⟩ := V
  exact X.laload hx (by rw [eT]; exact A.1) (State.isArrayOf_alike hZ.alike A.2.1) A.2.2 (by rw [S]; exact hj) (H _ (Nat.lt_of_not_le fun q => hj (Or.inr q))) hg hs hd
theorem lnIA (X : Stand p l e R s m args below meth c T locs cells slots) (hx : p.tables.exec = Jvm.exec) (hZ : Z.Warmed39 s.vm) (eT : T.heap = h) (V : IA Z h a ty n f) {z : Int32} (hz : n.toInt32 = z) {g : JFrame} (hg : g.method = m) {rest : List Value} (hs : g.stack = .ref a :: rest) (hd : decode c.code g.pc = .ok (.arraylength, 1)) :
    ∀ target, Steps p.tables e below (T.setTop { g with pc := g.pc + 1, stack := .int z :: rest }) target → Steps p.tables e below (T.setTop g) target := by
  obtain ⟨cl, A, S, H⟩ := V
  intro t k
  refine X.arraylength hx (by rw [eT]; exact A.1) (State.isArrayOf_alike hZ.alike A.2.1) hg hs hd t ?_
  rw [S, hz]; exact k
theorem lnJA (X : Stand p l e R s m args below meth c T locs cells slots) (hx : p.tables.exec = Jvm.exec) (hZ : Z.Warmed39 s.vm) (eT : T.heap = h) (V : JA Z h a n fJ) {z : Int32} (hz : n.toInt32 = z) {g : JFrame} (hg : g.method = m) {rest : List Value} (hs : g.stack = .ref a :: rest) (hd : decode c.code g.pc = .ok (.arraylength, 1)) :
    ∀ target, Steps p.tables e below (T.setTop { g with pc := g.pc + 1, stack := .int z :: rest }) target → Steps p.tables e below (T.setTop g) target := by
  obtain ⟨cl, A, S, H⟩ := V
  intro t k
  refine X.arraylength hx (by rw [eT]; exact A.1) (State.isArrayOf_alike hZ.alike A.2.1) hg hs hd t ?_
  rw [S, hz]; exact k
theorem retI (X : Stand p l e R s m args below meth c T locs cells slots) (hx : p.tables.exec = Jvm.exec) {pc : Nat} {Ls : Array Slot} {z : Int32} {rest : List Value} (hret : meth.sig.returnType = some .int) (hd : decode c.code pc = .ok (.ireturn, 1)) {fs : List Frame}
    (hl : ∀ (f : JFrame) (acts : List Action), f.method = m → f.locked = none → f.entered = [] → (doReturn e (T.setTop f) acts (some (.int z))).1 = T.setFrames fs) : Steps p.tables e below (T.setTop (mkF m pc Ls (.int z :: rest))) (T.setFrames fs) :=
  retOut X hx hret rfl (Or.inl ⟨rfl, Or.inl rfl, z, rfl⟩) hd hl
end Own
/-! numbers -/
theorem own_small {v : Int32} (n : Nat) (h0 : 0 ≤ v.toInt) (h1 : v.toInt < n) : ∃ k : Fin n, v = Int32.ofNat k.val := by
  refine ⟨⟨v.toInt.toNat, by omega⟩, ?_⟩
  apply Int32.toInt_inj.mp
  have := v.toInt_lt
  show v.toInt = (Int32.ofNat v.toInt.toNat).toInt
  rw [Int32.toInt_ofNat_of_lt (by omega)]
  omega
theorem own_mask31 (x : Int32) : 0 ≤ (x &&& (2147483647 : Int32)).toInt ∧ (x &&& (2147483647 : Int32)).toInt = x.toInt % 2147483648 := by
  have h : (x &&& (2147483647 : Int32)).toInt = x.toInt % (2 ^ 31 : Nat) := c_mask x 2147483647 31 (by decide) (by decide)
  omega
theorem own_mod (x : Int32) (d : Int32) (n : Nat) (hd : d.toInt = n) (hn : 0 < n) : ∃ k : Fin n, (x &&& (2147483647 : Int32)) % d = Int32.ofNat k.val := by
  apply own_small
  · rw [Int32.toInt_mod]; exact Int.tmod_nonneg _ (own_mask31 x).1
  · rw [Int32.toInt_mod, hd]; exact Int.tmod_lt_of_pos _ (by omega)
theorem own_ofNat_toInt {n : Nat} (h : n < 2147483648) : (Int32.ofNat n).toInt = n := Int32.toInt_ofNat_of_lt (by omega)
theorem own_ofNat_lt {a b : Nat} (ha : a < 2147483648) (hb : b < 2147483648) : Int32.ofNat a < Int32.ofNat b ↔ a < b := by
  rw [Int32.lt_iff_toInt_lt, own_ofNat_toInt ha, own_ofNat_toInt hb]; omega
theorem own_ofNat_nat {n : Nat} (h : n < 2147483648) : (Int32.ofNat n).toNatClampNeg = n := by
  show (Int32.ofNat n).toInt.toNat = n
  rw [own_ofNat_toInt h]; omega
theorem own_ofNat_in {n len : Nat} (h : n < len) (hl : len ≤ 2147483648) : ¬ (Int32.ofNat n < 0 ∨ len ≤ (Int32.ofNat n).toNatClampNeg) := by
  rw [own_ofNat_nat (by omega), Int32.lt_iff_toInt_lt, own_ofNat_toInt (by omega)]
  have e : (0 : Int32).toInt = 0 := by decide
  rw [e]; omega
theorem own_ofNat_succ (n : Nat) : Int32.ofNat n + 1 = Int32.ofNat (n + 1) := by rw [Int32.ofNat_add]; rfl
def digs (f : Nat → Int32) : Nat → Nat → Int32 → Int32
  | 0, i, r => r
  | k + 1, i, r => if (f i - (48 : Int32)) < (0 : Int32) then -1 else if (9 : Int32) < (f i - (48 : Int32)) then -1 else digs f k (i + 1) ((r * (10 : Int32)) + (f i - (48 : Int32)))
theorem own_pl {p1 : Int32} {i0 : Nat} (h : p1 = Int32.ofNat i0) (k : Nat) : p1 + Int32.ofNat k = Int32.ofNat (i0 + k) := by rw [h, Int32.ofNat_add]
theorem own_pin {p1 : Int32} {i0 : Nat} (h : p1 = Int32.ofNat i0) (h3 : i0 ≤ 3) (k : Nat) (hk : k < 7) : ¬ ((p1 + Int32.ofNat k) < 0 ∨ 10 ≤ (p1 + Int32.ofNat k).toNatClampNeg) := by
  rw [own_pl h k]; exact own_ofNat_in (by omega) (by decide)
theorem own_pin0 {p1 : Int32} {i0 : Nat} (h : p1 = Int32.ofNat i0) (h3 : i0 ≤ 3) : ¬ (p1 < 0 ∨ 10 ≤ p1.toNatClampNeg) := by
  rw [h]; exact own_ofNat_in (by omega) (by decide)
theorem own_a {p3 v128 : Int32} (h : v128 = (p3 &&& (3 : Int32))) : ∃ a : Nat, v128 = Int32.ofNat a ∧ a ≤ 3 := by
  have k : (p3 &&& (3 : Int32)).toInt = p3.toInt % (2 ^ 2 : Nat) := c_mask p3 3 2 (by decide) (by decide)
  rw [← h] at k
  obtain ⟨a, ha⟩ := own_small (v := v128) 4 (by omega) (by omega)
  exact ⟨a.val, ha, by have := a.isLt; omega⟩
theorem own_nz11 {p3 v128 : Int32} (h : v128 = (p3 &&& (3 : Int32))) : ((11 : Int32) - v128) ≠ 0 := by
  obtain ⟨a, ha, h3⟩ := own_a h
  intro q
  have k := c_isub 11 v128; have e : (11 : Int32).toInt = 11 := by decide
  have e0 : (0 : Int32).toInt = 0 := by decide
  have ea : v128.toInt = a := by rw [ha]; exact own_ofNat_toInt (by omega)
  rw [q, e, e0, ea] at k; omega
theorem raw_d0 : decode method_3_code 0 = .ok (.iload_n 3, 1) := by decide +kernel
theorem raw_d1 : decode method_3_code 1 = .ok (.bipush 8, 2) := by decide +kernel
theorem raw_d3 : decode method_3_code 3 = .ok (.if_icmp .ge 12, 3) := by decide +kernel
theorem raw_d6 : decode method_3_code 6 = .ok (.lload_n 0, 1) := by decide +kernel
theorem raw_d7 : decode method_3_code 7 = .ok (.bipush 8, 2) := by decide +kernel
theorem raw_d9 : decode method_3_code 9 = .ok (.iload_n 3, 1) := by decide +kernel
theorem raw_d10 : decode method_3_code 10 = .ok (.imul, 1) := by decide +kernel
theorem raw_d11 : decode method_3_code 11 = .ok (.lushr, 1) := by decide +kernel
theorem raw_d12 : decode method_3_code 12 = .ok (.l2i, 1) := by decide +kernel
theorem raw_d13 : decode method_3_code 13 = .ok (.i2b, 1) := by decide +kernel
theorem raw_d14 : decode method_3_code 14 = .ok (.ireturn, 1) := by decide +kernel
theorem raw_d15 : decode method_3_code 15 = .ok (.iload_n 2, 1) := by decide +kernel
theorem raw_d16 : decode method_3_code 16 = .ok (.bipush 8, 2) := by decide +kernel
theorem raw_d18 : decode method_3_code 18 = .ok (.iload_n 3, 1) := by decide +kernel
theorem raw_d19 : decode method_3_code 19 = .ok (.bipush 8, 2) := by decide +kernel
theorem raw_d21 : decode method_3_code 21 = .ok (.isub, 1) := by decide +kernel
theorem raw_d22 : decode method_3_code 22 = .ok (.imul, 1) := by decide +kernel
theorem raw_d23 : decode method_3_code 23 = .ok (.iushr, 1) := by decide +kernel
theorem raw_d24 : decode method_3_code 24 = .ok (.i2b, 1) := by decide +kernel
theorem raw_d25 : decode method_3_code 25 = .ok (.ireturn, 1) := by decide +kernel
theorem raw_pn : plainName "com/example/floatline/floatline/io/DateTextProlepticMonthPinLaw" = true := by first | (simp [plainName, overriddenIn]; done) | decide +kernel
theorem raw_ef (m : MethodId) (x0 : Int64) (x1 : Int32) (x2 : Int32) : entryFrame m #[(.long x0), (.int x1), (.int x2)] 4 = mkF m 0 #[.val (.long x0), .second, .val (.int x1), .val (.int x2)] [] := by first | (simp [entryFrame, mkF, argsToLocals, Value.category]; done) | rfl
def fRaw (q0 : Int64) (p1 : Int32) (p2 : Int32) : Int32 :=
  let jx3 : Int32 := (if p2 < (8 : Int32) then ((((q0.toUInt64 >>> (((8 : Int32) * p2) &&& 0x3f).toInt64.toUInt64).toInt64).toInt32).toInt8.toInt32) else (((p1.toUInt32 >>> (((8 : Int32) * (p2 - (8 : Int32))) &&& 31).toUInt32).toInt32).toInt8.toInt32))
  (nar .byte jx3)
set_option maxRecDepth 65536 in
set_option maxHeartbeats 40000000 in
theorem rm_raw (l : Launch) (Z : State) (a0 : Array Value) (hw : ∀ d ∈ tables_1, d.before a0 Z = true) (ws : List Jvm.Cond) (q0 : Int64) (p1 : Int32) (p2 : Int32) (h0 : Heap) (n0 : Nat) (Z0 : n0 ≤ h0.size) :
    MetFree l (⟨"com/example/floatline/floatline/io/DateTextProlepticMonthPinLaw", "raw", "(JII)B"⟩ : MethodName) (head1 (Jvm.Cond.code (⟨"com/example/floatline/floatline/io/DateTextProlepticMonthPinLaw", "raw", "(JII)B"⟩ : MethodName) method_3_code 4 (some .byte) :: ws) ({ frames := 0, cells := 0, slots := 0, locals := 0 } : Room)) (fun a U => a = #[(.long q0), (.int p1), (.int p2)] ∧ Z.Warmed39 U.vm ∧ U.heap = h0) (fun _ _ _ _ _ => True) (fun _ U o U' => ∃ v L, o = .returned v ∧ QP (.int (fRaw q0 p1 p2)) h0 n0 v U'.heap L ∧ FrameEnd U o U' L ({ frames := 0, cells := 0, slots := 0, locals := 0 } : Room).cells ({ frames := 0, cells := 0, slots := 0, locals := 0 } : Room).slots) := by
  refine MetFree.of_bodySF (plainFor_of_name raw_pn) hisR ?_
  intro p e s m args below meth c s₁ Bd hml0 hP hK
  obtain ⟨rfl, hZ, hh⟩ := hP
  have hx := Bd.exec
  have hby := Bd.bytes
  have hml : c.maxLocals = 4 := hml0
  have hown : s.vm.findClass "com/example/floatline/floatline/io/DateTextProlepticMonthPinLaw" = some m.cls := findClass_of_methodNamed Bd.named
  have hnm := (name_of_methodNamed Bd.named Bd.method).1
  have X0 : Stand p l e ({ frames := 0, cells := 0, slots := 0, locals := 0 } : Room) s m #[(.long q0), (.int p1), (.int p2)] below meth c s₁ [] 0 0 := Stand.of_body Bd
  have e0 : s₁.heap = h0 := by rw [← hh, Bd.state]; rfl
  have N0 := Fr.nil n0
  obtain ⟨P0, hP0⟩ : ∃ P0 : State → Prop, P0 = fun t => Steps p.tables e below (s₁.setTop (entryFrame m #[(.long q0), (.int p1), (.int p2)] 4)) t := ⟨_, rfl⟩
  have K0 : ∀ t, Steps p.tables e below (s₁.setTop (mkF m 0 #[.val (.long q0), .second, .val (.int p1), .val (.int p2)] [])) t → P0 t := by
    intro t k; rw [hP0]; exact castTop (raw_ef m q0 p1 p2) k
  have K1 : ∀ t, Steps p.tables e below (s₁.setTop (mkF m 3 #[.val (.long q0), .second, .val (.int p1), .val (.int p2)] [(.int (8 : Int32)), (.int p2)])) t → P0 t := by
    intro t kt
    refine K0 t ?_
    show Steps p.tables e below (s₁.setTop (mkF m 0 #[.val (.long q0), .second, .val (.int p1), .val (.int p2)] [])) t
    refine XS.iloadN X0.here hx rfl (hb hby raw_d0) rfl ?_
    show Steps p.tables e below (s₁.setTop (mkF m 1 #[.val (.long q0), .second, .val (.int p1), .val (.int p2)] [(.int p2)])) t
    refine XS.bipush X0.here hx rfl (hb hby raw_d1) ?_
    exact kt
  obtain ⟨jx3, pcx3, Lx3, Sx3, hjx3, hdx3, K4⟩ : ∃ (jx3 : Int32) (pcx3 : Nat) (Lx3 : Array Slot) (Sx3 : List Value), jx3 = (if p2 < (8 : Int32) then ((((q0.toUInt64 >>> (((8 : Int32) * p2) &&& 0x3f).toInt64.toUInt64).toInt64).toInt32).toInt8.toInt32) else (((p1.toUInt32 >>> (((8 : Int32) * (p2 - (8 : Int32))) &&& 31).toUInt32).toInt32).toInt8.toInt32)) ∧ decode c.code pcx3 = .ok (.ireturn, 1) ∧ ∀ t, Steps p.tables e below (s₁.setTop (mkF m pcx3 Lx3 ((.int jx3) :: Sx3))) t → P0 t := by
    by_cases hc3 : p2 < (8 : Int32)
    · have K2 : ∀ t, Steps p.tables e below (s₁.setTop (mkF m 14 #[.val (.long q0), .second, .val (.int p1), .val (.int p2)] [(.int ((((q0.toUInt64 >>> (((8 : Int32) * p2) &&& 0x3f).toInt64.toUInt64).toInt64).toInt32).toInt8.toInt32))])) t → P0 t := by
        intro t kt
        refine K1 t ?_
        show Steps p.tables e below (s₁.setTop (mkF m 3 #[.val (.long q0), .second, .val (.int p1), .val (.int p2)] [(.int (8 : Int32)), (.int p2)])) t
        refine XS.icmpNo X0.here hx rfl (hb hby raw_d3) rfl (tlt hc3).2.1 ?_
        show Steps p.tables e below (s₁.setTop (mkF m 6 #[.val (.long q0), .second, .val (.int p1), .val (.int p2)] [])) t
        refine XS.lloadN X0.here hx rfl (hb hby raw_d6) rfl ?_
        show Steps p.tables e below (s₁.setTop (mkF m 7 #[.val (.long q0), .second, .val (.int p1), .val (.int p2)] [(.long q0)])) t
        refine XS.bipush X0.here hx rfl (hb hby raw_d7) ?_
        show Steps p.tables e below (s₁.setTop (mkF m 9 #[.val (.long q0), .second, .val (.int p1), .val (.int p2)] [(.int (8 : Int32)), (.long q0)])) t
        refine XS.iloadN X0.here hx rfl (hb hby raw_d9) rfl ?_
        show Steps p.tables e below (s₁.setTop (mkF m 10 #[.val (.long q0), .second, .val (.int p1), .val (.int p2)] [(.int p2), (.int (8 : Int32)), (.long q0)])) t
        refine XS.imul X0.here hx rfl (hb hby raw_d10) rfl ?_
        show Steps p.tables e below (s₁.setTop (mkF m 11 #[.val (.long q0), .second, .val (.int p1), .val (.int p2)] [(.int ((8 : Int32) * p2)), (.long q0)])) t
        refine XS.lushr X0.here hx rfl (hb hby raw_d11) rfl ?_
        show Steps p.tables e below (s₁.setTop (mkF m 12 #[.val (.long q0), .second, .val (.int p1), .val (.int p2)] [(.long ((q0.toUInt64 >>> (((8 : Int32) * p2) &&& 0x3f).toInt64.toUInt64).toInt64))])) t
        refine XS.l2i X0.here hx rfl (hb hby raw_d12) rfl ?_
        show Steps p.tables e below (s₁.setTop (mkF m 13 #[.val (.long q0), .second, .val (.int p1), .val (.int p2)] [(.int (((q0.toUInt64 >>> (((8 : Int32) * p2) &&& 0x3f).toInt64.toUInt64).toInt64).toInt32))])) t
        refine XS.i2b X0.here hx rfl (hb hby raw_d13) rfl ?_
        exact kt
      exact ⟨_, _, _, _, (if_pos hc3).symm, (hb hby raw_d14), K2⟩
    · have K3 : ∀ t, Steps p.tables e below (s₁.setTop (mkF m 25 #[.val (.long q0), .second, .val (.int p1), .val (.int p2)] [(.int (((p1.toUInt32 >>> (((8 : Int32) * (p2 - (8 : Int32))) &&& 31).toUInt32).toInt32).toInt8.toInt32))])) t → P0 t := by
        intro t kt
        refine K1 t ?_
        show Steps p.tables e below (s₁.setTop (mkF m 3 #[.val (.long q0), .second, .val (.int p1), .val (.int p2)] [(.int (8 : Int32)), (.int p2)])) t
        refine XS.icmpYes X0.here hx rfl (pc0 := 3) (pc' := 15) rfl (hb hby raw_d3) rfl (flt hc3).2.1 (by decide) (by decide) ?_
        show Steps p.tables e below (s₁.setTop (mkF m 15 #[.val (.long q0), .second, .val (.int p1), .val (.int p2)] [])) t
        refine XS.iloadN X0.here hx rfl (hb hby raw_d15) rfl ?_
        show Steps p.tables e below (s₁.setTop (mkF m 16 #[.val (.long q0), .second, .val (.int p1), .val (.int p2)] [(.int p1)])) t
        refine XS.bipush X0.here hx rfl (hb hby raw_d16) ?_
        show Steps p.tables e below (s₁.setTop (mkF m 18 #[.val (.long q0), .second, .val (.int p1), .val (.int p2)] [(.int (8 : Int32)), (.int p1)])) t
        refine XS.iloadN X0.here hx rfl (hb hby raw_d18) rfl ?_
        show Steps p.tables e below (s₁.setTop (mkF m 19 #[.val (.long q0), .second, .val (.int p1), .val (.int p2)] [(.int p2), (.int (8 : Int32)), (.int p1)])) t
        refine XS.bipush X0.here hx rfl (hb hby raw_d19) ?_
        show Steps p.tables e below (s₁.setTop (mkF m 21 #[.val (.long q0), .second, .val (.int p1), .val (.int p2)] [(.int (8 : Int32)), (.int p2), (.int (8 : Int32)), (.int p1)])) t
        refine XS.isub X0.here hx rfl (hb hby raw_d21) rfl ?_
        show Steps p.tables e below (s₁.setTop (mkF m 22 #[.val (.long q0), .second, .val (.int p1), .val (.int p2)] [(.int (p2 - (8 : Int32))), (.int (8 : Int32)), (.int p1)])) t
        refine XS.imul X0.here hx rfl (hb hby raw_d22) rfl ?_
        show Steps p.tables e below (s₁.setTop (mkF m 23 #[.val (.long q0), .second, .val (.int p1), .val (.int p2)] [(.int ((8 : Int32) * (p2 - (8 : Int32)))), (.int p1)])) t
        refine XS.iushr X0.here hx rfl (hb hby raw_d23) rfl ?_
        show Steps p.tables e below (s₁.setTop (mkF m 24 #[.val (.long q0), .second, .val (.int p1), .val (.int p2)] [(.int ((p1.toUInt32 >>> (((8 : Int32) * (p2 - (8 : Int32))) &&& 31).toUInt32).toInt32))])) t
        refine XS.i2b X0.here hx rfl (hb hby raw_d24) rfl ?_
        exact kt
      exact ⟨_, _, _, _, (if_neg hc3).symm, (hb hby raw_d25), K3⟩
  obtain ⟨fs, hr, hrun, hended, hW, hsame⟩ := X0.leave (v := some (.int (nar .byte jx3))) (fun h => by rw [Bd.returns] at h; cases h)
  refine ⟨_, _, ?_, hrun, hended, _, _, rfl, ?_, ⟨_, rfl⟩, hW, hsame.mono (by decide) (by decide)⟩
  · skip
    have q := K4 _ (retN X0 hx (t := .byte) Bd.returns (by simp) hdx3 hr)
    rw [hP0] at q; exact q
  · show QP (.int (fRaw q0 p1 p2)) h0 n0 _ s₁.heap _
    rw [e0]
    subst hjx3
    exact ⟨rfl, N0, rfl⟩
theorem pck_d0 : decode method_4_code 0 = .ok (.lload_n 0, 1) := by decide +kernel
theorem pck_d1 : decode method_4_code 1 = .ok (.iload_n 2, 1) := by decide +kernel
theorem pck_d2 : decode method_4_code 2 = .ok (.iload 4, 2) := by decide +kernel
theorem pck_d4 : decode method_4_code 4 = .ok (.invokestatic 24, 3) := by decide +kernel
theorem pck_d7 : decode method_4_code 7 = .ok (.istore 5, 2) := by decide +kernel
theorem pck_d9 : decode method_4_code 9 = .ok (.iload_n 3, 1) := by decide +kernel
theorem pck_d10 : decode method_4_code 10 = .ok (.iconst 2, 1) := by decide +kernel
theorem pck_d11 : decode method_4_code 11 = .ok (.iload 4, 2) := by decide +kernel
theorem pck_d13 : decode method_4_code 13 = .ok (.imul, 1) := by decide +kernel
theorem pck_d14 : decode method_4_code 14 = .ok (.iushr, 1) := by decide +kernel
theorem pck_d15 : decode method_4_code 15 = .ok (.iconst 3, 1) := by decide +kernel
theorem pck_d16 : decode method_4_code 16 = .ok (.iand, 1) := by decide +kernel
theorem pck_d17 : decode method_4_code 17 = .ok (.istore 6, 2) := by decide +kernel
theorem pck_d19 : decode method_4_code 19 = .ok (.iload 6, 2) := by decide +kernel
theorem pck_d21 : decode method_4_code 21 = .ok (.ifCond .ne 6, 3) := by decide +kernel
theorem pck_d24 : decode method_4_code 24 = .ok (.iload 5, 2) := by decide +kernel
theorem pck_d26 : decode method_4_code 26 = .ok (.ireturn, 1) := by decide +kernel
theorem pck_d27 : decode method_4_code 27 = .ok (.iload 6, 2) := by decide +kernel
theorem pck_d29 : decode method_4_code 29 = .ok (.iconst 3, 1) := by decide +kernel
theorem pck_d30 : decode method_4_code 30 = .ok (.if_icmp .ne 6, 3) := by decide +kernel
theorem pck_d33 : decode method_4_code 33 = .ok (.bipush 45, 2) := by decide +kernel
theorem pck_d35 : decode method_4_code 35 = .ok (.ireturn, 1) := by decide +kernel
theorem pck_d36 : decode method_4_code 36 = .ok (.bipush 48, 2) := by decide +kernel
theorem pck_d38 : decode method_4_code 38 = .ok (.iload 5, 2) := by decide +kernel
theorem pck_d40 : decode method_4_code 40 = .ok (.bipush 15, 2) := by decide +kernel
theorem pck_d42 : decode method_4_code 42 = .ok (.iand, 1) := by decide +kernel
theorem pck_d43 : decode method_4_code 43 = .ok (.iadd, 1) := by decide +kernel
theorem pck_d44 : decode method_4_code 44 = .ok (.i2b, 1) := by decide +kernel
theorem pck_d45 : decode method_4_code 45 = .ok (.ireturn, 1) := by decide +kernel
theorem pck_pn : plainName "com/example/floatline/floatline/io/DateTextProlepticMonthPinLaw" = true := by first | (simp [plainName, overriddenIn]; done) | decide +kernel
theorem pck_pd0 : parseMethodDescriptor "(JII)B" = some ⟨[.long, .int, .int], some .byte⟩ := by decide +kernel
theorem pck_ef (m : MethodId) (x0 : Int64) (x1 : Int32) (x2 : Int32) (x3 : Int32) : entryFrame m #[(.long x0), (.int x1), (.int x2), (.int x3)] 7 = mkF m 0 #[.val (.long x0), .second, .val (.int x1), .val (.int x2), .val (.int x3), .unset, .unset] [] := by first | (simp [entryFrame, mkF, argsToLocals, Value.category]; done) | rfl
def fPick (q0 : Int64) (p1 : Int32) (p2 : Int32) (p3 : Int32) : Int32 :=
  let v7 : Int32 := (fRaw q0 p1 p3)
  let v17 : Int32 := (((p2.toUInt32 >>> (((2 : Int32) * p3) &&& 31).toUInt32).toInt32) &&& (3 : Int32))
  let jx21 : Int32 := (if v17 = (0 : Int32) then v7 else (if v17 = (3 : Int32) then (45 : Int32) else (((48 : Int32) + (v7 &&& (15 : Int32))).toInt8.toInt32)))
  (nar .byte jx21)
set_option maxRecDepth 65536 in
set_option maxHeartbeats 40000000 in
theorem rm_pck (l : Launch) (Z : State) (a0 : Array Value) (hw : ∀ d ∈ tables_1, d.before a0 Z = true) (ws : List Jvm.Cond) (q0 : Int64) (p1 : Int32) (p2 : Int32) (p3 : Int32) (h0 : Heap) (n0 : Nat) (Z0 : n0 ≤ h0.size) :
    MetFree l (⟨"com/example/floatline/floatline/io/DateTextProlepticMonthPinLaw", "pick", "(JIII)B"⟩ : MethodName) (head1 (Jvm.Cond.code (⟨"com/example/floatline/floatline/io/DateTextProlepticMonthPinLaw", "pick", "(JIII)B"⟩ : MethodName) method_4_code 7 (some .byte) :: ws) ({ frames := 1, cells := 0, slots := 0, locals := 15 } : Room)) (fun a U => a = #[(.long q0), (.int p1), (.int p2), (.int p3)] ∧ Z.Warmed39 U.vm ∧ U.heap = h0) (fun _ _ _ _ _ => True) (fun _ U o U' => ∃ v L, o = .returned v ∧ QP (.int (fPick q0 p1 p2 p3)) h0 n0 v U'.heap L ∧ FrameEnd U o U' L ({ frames := 1, cells := 0, slots := 0, locals := 15 } : Room).cells ({ frames := 1, cells := 0, slots := 0, locals := 15 } : Room).slots) := by
  refine MetFree.of_bodySF (plainFor_of_name pck_pn) hisR ?_
  intro p e s m args below meth c s₁ Bd hml0 hP hK
  obtain ⟨rfl, hZ, hh⟩ := hP
  have hx := Bd.exec
  have hby := Bd.bytes
  have hml : c.maxLocals = 7 := hml0
  have hown : s.vm.findClass "com/example/floatline/floatline/io/DateTextProlepticMonthPinLaw" = some m.cls := findClass_of_methodNamed Bd.named
  have hnm := (name_of_methodNamed Bd.named Bd.method).1
  have X0 : Stand p l e ({ frames := 1, cells := 0, slots := 0, locals := 15 } : Room) s m #[(.long q0), (.int p1), (.int p2), (.int p3)] below meth c s₁ [] 0 0 := Stand.of_body Bd
  have e0 : s₁.heap = h0 := by rw [← hh, Bd.state]; rfl
  have N0 := Fr.nil n0
  obtain ⟨P0, hP0⟩ : ∃ P0 : State → Prop, P0 = fun t => Steps p.tables e below (s₁.setTop (entryFrame m #[(.long q0), (.int p1), (.int p2), (.int p3)] 7)) t := ⟨_, rfl⟩
  have K0 : ∀ t, Steps p.tables e below (s₁.setTop (mkF m 0 #[.val (.long q0), .second, .val (.int p1), .val (.int p2), .val (.int p3), .unset, .unset] [])) t → P0 t := by
    intro t k; rw [hP0]; exact castTop (pck_ef m q0 p1 p2 p3) k
  obtain ⟨_, _, ⟨T1, L1, k1, n1⟩, -, X1, ⟨Lc1, hQ1, l1, y1, z1⟩, st1⟩ := Jvm.LawKit.callS X0 hx (y := (⟨"com/example/floatline/floatline/io/DateTextProlepticMonthPinLaw", "raw", "(JII)B"⟩ : MethodName)) hown (mvT hZ (hw _ (List.mem_of_getElem? (i := 5) rfl))) (mvT hZ (hw _ (List.mem_of_getElem? (i := 6) rfl))) (mvT hZ (hw _ (List.mem_of_getElem? (i := 3) rfl))) (mvT hZ (hw _ (List.mem_of_getElem? (i := 7) rfl))) (by decide) (backOf (W := 0) (rm_raw l Z a0 hw [] q0 p1 p3 h0 n0 Z0 ) hZ (hw _ (List.mem_of_getElem? (i := 7) rfl)) (hw _ (List.mem_of_getElem? (i := 3) rfl)) (by decide) (by decide)) (g := (mkF m 4 #[.val (.long q0), .second, .val (.int p1), .val (.int p2), .val (.int p3), .unset, .unset] [(.int p3), (.int p1), (.long q0)])) rfl (by rw [hml]; rfl) (argsL := [(.long q0), (.int p1), (.int p3)]) (rest := []) (lenOf pck_pd0 rfl) rfl (by show 2 * 0 + _ ≤ _; exact Nat.le_of_eq rfl) (hb hby pck_d4) (fun _ _ => ⟨rfl, e0, (by decide : 0 + 0 ≤ _), (by decide : 0 + 0 ≤ _)⟩)
  dsimp only [Pt.U, Pt.locs, Pt.cells, Pt.slots] at X1 l1 y1 z1 st1 hQ1
  rw [l1, y1, z1] at X1
  obtain ⟨rfl, N1q, e1⟩ := hQ1
  have N1 := Fr.app N0 N1q
  have K2 : ∀ t, Steps p.tables e below (T1.setTop (mkF m 9 #[.val (.long q0), .second, .val (.int p1), .val (.int p2), .val (.int p3), .val (.int (fRaw q0 p1 p3)), .unset] [])) t → P0 t := by
    intro t kt
    refine K0 t ?_
    show Steps p.tables e below (s₁.setTop (mkF m 0 #[.val (.long q0), .second, .val (.int p1), .val (.int p2), .val (.int p3), .unset, .unset] [])) t
    refine XS.lloadN X0.here hx rfl (hb hby pck_d0) rfl ?_
    show Steps p.tables e below (s₁.setTop (mkF m 1 #[.val (.long q0), .second, .val (.int p1), .val (.int p2), .val (.int p3), .unset, .unset] [(.long q0)])) t
    refine XS.iloadN X0.here hx rfl (hb hby pck_d1) rfl ?_
    show Steps p.tables e below (s₁.setTop (mkF m 2 #[.val (.long q0), .second, .val (.int p1), .val (.int p2), .val (.int p3), .unset, .unset] [(.int p1), (.long q0)])) t
    refine XS.iload X0.here hx rfl (hb hby pck_d2) rfl ?_
    show Steps p.tables e below (s₁.setTop (mkF m 4 #[.val (.long q0), .second, .val (.int p1), .val (.int p2), .val (.int p3), .unset, .unset] [(.int p3), (.int p1), (.long q0)])) t
    refine st1 _ ?_
    show Steps p.tables e below (T1.setTop (mkF m 7 #[.val (.long q0), .second, .val (.int p1), .val (.int p2), .val (.int p3), .unset, .unset] [(.int (fRaw q0 p1 p3))])) t
    refine XS.istore X1.here hx rfl (hb hby pck_d7) rfl (l' := #[.val (.long q0), .second, .val (.int p1), .val (.int p2), .val (.int p3), .val (.int (fRaw q0 p1 p3)), .unset]) rfl ?_
    exact kt
  obtain ⟨v7, hv7, K3⟩ : ∃ v7 : Int32, v7 = (fRaw q0 p1 p3) ∧ ∀ t, Steps p.tables e below (T1.setTop (mkF m 9 #[.val (.long q0), .second, .val (.int p1), .val (.int p2), .val (.int p3), .val (.int v7), .unset] [])) t → P0 t := ⟨_, rfl, K2⟩
  have K4 : ∀ t, Steps p.tables e below (T1.setTop (mkF m 19 #[.val (.long q0), .second, .val (.int p1), .val (.int p2), .val (.int p3), .val (.int v7), .val (.int (((p2.toUInt32 >>> (((2 : Int32) * p3) &&& 31).toUInt32).toInt32) &&& (3 : Int32)))] [])) t → P0 t := by
    intro t kt
    refine K3 t ?_
    show Steps p.tables e below (T1.setTop (mkF m 9 #[.val (.long q0), .second, .val (.int p1), .val (.int p2), .val (.int p3), .val (.int v7), .unset] [])) t
    refine XS.iloadN X1.here hx rfl (hb hby pck_d9) rfl ?_
    show Steps p.tables e below (T1.setTop (mkF m 10 #[.val (.long q0), .second, .val (.int p1), .val (.int p2), .val (.int p3), .val (.int v7), .unset] [(.int p2)])) t
    refine XS.iconst X1.here hx rfl (hb hby pck_d10) ?_
    show Steps p.tables e below (T1.setTop (mkF m 11 #[.val (.long q0), .second, .val (.int p1), .val (.int p2), .val (.int p3), .val (.int v7), .unset] [(.int (2 : Int32)), (.int p2)])) t
    refine XS.iload X1.here hx rfl (hb hby pck_d11) rfl ?_
    show Steps p.tables e below (T1.setTop (mkF m 13 #[.val (.long q0), .second, .val (.int p1), .val (.int p2), .val (.int p3), .val (.int v7), .unset] [(.int p3), (.int (2 : Int32)), (.int p2)])) t
    refine XS.imul X1.here hx rfl (hb hby pck_d13) rfl ?_
    show Steps p.tables e below (T1.setTop (mkF m 14 #[.val (.long q0), .second, .val (.int p1), .val (.int p2), .val (.int p3), .val (.int v7), .unset] [(.int ((2 : Int32) * p3)), (.int p2)])) t
    refine XS.iushr X1.here hx rfl (hb hby pck_d14) rfl ?_
    show Steps p.tables e below (T1.setTop (mkF m 15 #[.val (.long q0), .second, .val (.int p1), .val (.int p2), .val (.int p3), .val (.int v7), .unset] [(.int ((p2.toUInt32 >>> (((2 : Int32) * p3) &&& 31).toUInt32).toInt32))])) t
    refine XS.iconst X1.here hx rfl (hb hby pck_d15) ?_
    show Steps p.tables e below (T1.setTop (mkF m 16 #[.val (.long q0), .second, .val (.int p1), .val (.int p2), .val (.int p3), .val (.int v7), .unset] [(.int (3 : Int32)), (.int ((p2.toUInt32 >>> (((2 : Int32) * p3) &&& 31).toUInt32).toInt32))])) t
    refine XS.iand X1.here hx rfl (hb hby pck_d16) rfl ?_
    show Steps p.tables e below (T1.setTop (mkF m 17 #[.val (.long q0), .second, .val (.int p1), .val (.int p2), .val (.int p3), .val (.int v7), .unset] [(.int (((p2.toUInt32 >>> (((2 : Int32) * p3) &&& 31).toUInt32).toInt32) &&& (3 : Int32)))])) t
    refine XS.istore X1.here hx rfl (hb hby pck_d17) rfl (l' := #[.val (.long q0), .second, .val (.int p1), .val (.int p2), .val (.int p3), .val (.int v7), .val (.int (((p2.toUInt32 >>> (((2 : Int32) * p3) &&& 31).toUInt32).toInt32) &&& (3 : Int32)))]) rfl ?_
    exact kt
  obtain ⟨v17, hv17, K5⟩ : ∃ v17 : Int32, v17 = (((p2.toUInt32 >>> (((2 : Int32) * p3) &&& 31).toUInt32).toInt32) &&& (3 : Int32)) ∧ ∀ t, Steps p.tables e below (T1.setTop (mkF m 19 #[.val (.long q0), .second, .val (.int p1), .val (.int p2), .val (.int p3), .val (.int v7), .val (.int v17)] [])) t → P0 t := ⟨_, rfl, K4⟩
  have K6 : ∀ t, Steps p.tables e below (T1.setTop (mkF m 21 #[.val (.long q0), .second, .val (.int p1), .val (.int p2), .val (.int p3), .val (.int v7), .val (.int v17)] [(.int v17)])) t → P0 t := by
    intro t kt
    refine K5 t ?_
    show Steps p.tables e below (T1.setTop (mkF m 19 #[.val (.long q0), .second, .val (.int p1), .val (.int p2), .val (.int p3), .val (.int v7), .val (.int v17)] [])) t
    refine XS.iload X1.here hx rfl (hb hby pck_d19) rfl ?_
    exact kt
  obtain ⟨jx21, pcx21, Lx21, Sx21, hjx21, hdx21, K12⟩ : ∃ (jx21 : Int32) (pcx21 : Nat) (Lx21 : Array Slot) (Sx21 : List Value), jx21 = (if v17 = (0 : Int32) then v7 else (if v17 = (3 : Int32) then (45 : Int32) else (((48 : Int32) + (v7 &&& (15 : Int32))).toInt8.toInt32))) ∧ decode c.code pcx21 = .ok (.ireturn, 1) ∧ ∀ t, Steps p.tables e below (T1.setTop (mkF m pcx21 Lx21 ((.int jx21) :: Sx21))) t → P0 t := by
    by_cases hc21 : v17 = (0 : Int32)
    · have K7 : ∀ t, Steps p.tables e below (T1.setTop (mkF m 26 #[.val (.long q0), .second, .val (.int p1), .val (.int p2), .val (.int p3), .val (.int v7), .val (.int v17)] [(.int v7)])) t → P0 t := by
        intro t kt
        refine K6 t ?_
        show Steps p.tables e below (T1.setTop (mkF m 21 #[.val (.long q0), .second, .val (.int p1), .val (.int p2), .val (.int p3), .val (.int v7), .val (.int v17)] [(.int v17)])) t
        refine XS.ifNo X1.here hx rfl (hb hby pck_d21) rfl ((if0 _ _).trans (teq hc21).2) ?_
        show Steps p.tables e below (T1.setTop (mkF m 24 #[.val (.long q0), .second, .val (.int p1), .val (.int p2), .val (.int p3), .val (.int v7), .val (.int v17)] [])) t
        refine XS.iload X1.here hx rfl (hb hby pck_d24) rfl ?_
        exact kt
      exact ⟨_, _, _, _, (if_pos hc21).symm, (hb hby pck_d26), K7⟩
    · have K8 : ∀ t, Steps p.tables e below (T1.setTop (mkF m 30 #[.val (.long q0), .second, .val (.int p1), .val (.int p2), .val (.int p3), .val (.int v7), .val (.int v17)] [(.int (3 : Int32)), (.int v17)])) t → P0 t := by
        intro t kt
        refine K6 t ?_
        show Steps p.tables e below (T1.setTop (mkF m 21 #[.val (.long q0), .second, .val (.int p1), .val (.int p2), .val (.int p3), .val (.int v7), .val (.int v17)] [(.int v17)])) t
        refine XS.ifYes X1.here hx rfl (pc0 := 21) (pc' := 27) rfl (hb hby pck_d21) rfl ((if0 _ _).trans (feq hc21).2) (by decide) (by decide) ?_
        show Steps p.tables e below (T1.setTop (mkF m 27 #[.val (.long q0), .second, .val (.int p1), .val (.int p2), .val (.int p3), .val (.int v7), .val (.int v17)] [])) t
        refine XS.iload X1.here hx rfl (hb hby pck_d27) rfl ?_
        show Steps p.tables e below (T1.setTop (mkF m 29 #[.val (.long q0), .second, .val (.int p1), .val (.int p2), .val (.int p3), .val (.int v7), .val (.int v17)] [(.int v17)])) t
        refine XS.iconst X1.here hx rfl (hb hby pck_d29) ?_
        exact kt
      obtain ⟨jx30, pcx30, Lx30, Sx30, hjx30, hdx30, K11⟩ : ∃ (jx30 : Int32) (pcx30 : Nat) (Lx30 : Array Slot) (Sx30 : List Value), jx30 = (if v17 = (3 : Int32) then (45 : Int32) else (((48 : Int32) + (v7 &&& (15 : Int32))).toInt8.toInt32)) ∧ decode c.code pcx30 = .ok (.ireturn, 1) ∧ ∀ t, Steps p.tables e below (T1.setTop (mkF m pcx30 Lx30 ((.int jx30) :: Sx30))) t → P0 t := by
        by_cases hc30 : v17 = (3 : Int32)
        · have K9 : ∀ t, Steps p.tables e below (T1.setTop (mkF m 35 #[.val (.long q0), .second, .val (.int p1), .val (.int p2), .val (.int p3), .val (.int v7), .val (.int v17)] [(.int (45 : Int32))])) t → P0 t := by
            intro t kt
            refine K8 t ?_
            show Steps p.tables e below (T1.setTop (mkF m 30 #[.val (.long q0), .second, .val (.int p1), .val (.int p2), .val (.int p3), .val (.int v7), .val (.int v17)] [(.int (3 : Int32)), (.int v17)])) t
            refine XS.icmpNo X1.here hx rfl (hb hby pck_d30) rfl (teq hc30).2 ?_
            show Steps p.tables e below (T1.setTop (mkF m 33 #[.val (.long q0), .second, .val (.int p1), .val (.int p2), .val (.int p3), .val (.int v7), .val (.int v17)] [])) t
            refine XS.bipush X1.here hx rfl (hb hby pck_d33) ?_
            exact kt
          exact ⟨_, _, _, _, (if_pos hc30).symm, (hb hby pck_d35), K9⟩
        · have K10 : ∀ t, Steps p.tables e below (T1.setTop (mkF m 45 #[.val (.long q0), .second, .val (.int p1), .val (.int p2), .val (.int p3), .val (.int v7), .val (.int v17)] [(.int (((48 : Int32) + (v7 &&& (15 : Int32))).toInt8.toInt32))])) t → P0 t := by
            intro t kt
            refine K8 t ?_
            show Steps p.tables e below (T1.setTop (mkF m 30 #[.val (.long q0), .second, .val (.int p1), .val (.int p2), .val (.int p3), .val (.int v7), .val (.int v17)] [(.int (3 : Int32)), (.int v17)])) t
            refine XS.icmpYes X1.here hx rfl (pc0 := 30) (pc' := 36) rfl (hb hby pck_d30) rfl (feq hc30).2 (by decide) (by decide) ?_
            show Steps p.tables e below (T1.setTop (mkF m 36 #[.val (.long q0), .second, .val (.int p1), .val (.int p2), .val (.int p3), .val (.int v7), .val (.int v17)] [])) t
            refine XS.bipush X1.here hx rfl (hb hby pck_d36) ?_
            show Steps p.tables e below (T1.setTop (mkF m 38 #[.val (.long q0), .second, .val (.int p1), .val (.int p2), .val (.int p3), .val (.int v7), .val (.int v17)] [(.int (48 : Int32))])) t
            refine XS.iload X1.here hx rfl (hb hby pck_d38) rfl ?_
            show Steps p.tables e below (T1.setTop (mkF m 40 #[.val (.long q0), .second, .val (.int p1), .val (.int p2), .val (.int p3), .val (.int v7), .val (.int v17)] [(.int v7), (.int (48 : Int32))])) t
            refine XS.bipush X1.here hx rfl (hb hby pck_d40) ?_
            show Steps p.tables e below (T1.setTop (mkF m 42 #[.val (.long q0), .second, .val (.int p1), .val (.int p2), .val (.int p3), .val (.int v7), .val (.int v17)] [(.int (15 : Int32)), (.int v7), (.int (48 : Int32))])) t
            refine XS.iand X1.here hx rfl (hb hby pck_d42) rfl ?_
            show Steps p.tables e below (T1.setTop (mkF m 43 #[.val (.long q0), .second, .val (.int p1), .val (.int p2), .val (.int p3), .val (.int v7), .val (.int v17)] [(.int (v7 &&& (15 : Int32))), (.int (48 : Int32))])) t
            refine XS.iadd X1.here hx rfl (hb hby pck_d43) rfl ?_
            show Steps p.tables e below (T1.setTop (mkF m 44 #[.val (.long q0), .second, .val (.int p1), .val (.int p2), .val (.int p3), .val (.int v7), .val (.int v17)] [(.int ((48 : Int32) + (v7 &&& (15 : Int32))))])) t
            refine XS.i2b X1.here hx rfl (hb hby pck_d44) rfl ?_
            exact kt
          exact ⟨_, _, _, _, (if_neg hc30).symm, (hb hby pck_d45), K10⟩
      subst hjx30
      exact ⟨_, _, _, _, (if_neg hc21).symm, hdx30, K11⟩
  obtain ⟨fs, hr, hrun, hended, hW, hsame⟩ := X1.leave (v := some (.int (nar .byte jx21))) (fun h => by rw [Bd.returns] at h; cases h)
  refine ⟨_, _, ?_, hrun, hended, _, _, rfl, ?_, ⟨_, rfl⟩, hW, hsame.mono (by decide) (by decide)⟩
  · skip
    have q := K12 _ (retN X1 hx (t := .byte) Bd.returns (by simp) hdx21 hr)
    rw [hP0] at q; exact q
  · show QP (.int (fPick q0 p1 p2 p3)) h0 n0 _ T1.heap _
    rw [e1]
    subst hv7
    subst hv17
    subst hjx21
    exact ⟨rfl, N1, rfl⟩
theorem dig_d0 : decode method_5_code 0 = .ok (.iload_n 0, 1) := by decide +kernel
theorem dig_d1 : decode method_5_code 1 = .ok (.bipush 48, 2) := by decide +kernel
theorem dig_d3 : decode method_5_code 3 = .ok (.if_icmp .lt 14, 3) := by decide +kernel
theorem dig_d6 : decode method_5_code 6 = .ok (.iload_n 0, 1) := by decide +kernel
theorem dig_d7 : decode method_5_code 7 = .ok (.bipush 57, 2) := by decide +kernel
theorem dig_d9 : decode method_5_code 9 = .ok (.if_icmp .gt 8, 3) := by decide +kernel
theorem dig_d12 : decode method_5_code 12 = .ok (.iload_n 0, 1) := by decide +kernel
theorem dig_d13 : decode method_5_code 13 = .ok (.bipush 48, 2) := by decide +kernel
theorem dig_d15 : decode method_5_code 15 = .ok (.isub, 1) := by decide +kernel
theorem dig_d16 : decode method_5_code 16 = .ok (.ireturn, 1) := by decide +kernel
theorem dig_d17 : decode method_5_code 17 = .ok (.iconst (-1), 1) := by decide +kernel
theorem dig_d18 : decode method_5_code 18 = .ok (.ireturn, 1) := by decide +kernel
theorem dig_pn : plainName "com/example/floatline/floatline/io/DateTextProlepticMonthPinLaw" = true := by first | (simp [plainName, overriddenIn]; done) | decide +kernel
theorem dig_ef (m : MethodId) (x0 : Int32) : entryFrame m #[(.int x0)] 1 = mkF m 0 #[.val (.int x0)] [] := by first | (simp [entryFrame, mkF, argsToLocals, Value.category]; done) | rfl
def fDig (p0 : Int32) : Int32 :=
  let jx3 : Int32 := (if p0 < (48 : Int32) then (-1 : Int32) else (if (57 : Int32) < p0 then (-1 : Int32) else (p0 - (48 : Int32))))
  jx3
set_option maxRecDepth 65536 in
set_option maxHeartbeats 40000000 in
theorem rm_dig (l : Launch) (Z : State) (a0 : Array Value) (hw : ∀ d ∈ tables_1, d.before a0 Z = true) (ws : List Jvm.Cond) (p0 : Int32) (h0 : Heap) (n0 : Nat) (Z0 : n0 ≤ h0.size) :
    MetFree l (⟨"com/example/floatline/floatline/io/DateTextProlepticMonthPinLaw", "dig", "(B)I"⟩ : MethodName) (head1 (Jvm.Cond.code (⟨"com/example/floatline/floatline/io/DateTextProlepticMonthPinLaw", "dig", "(B)I"⟩ : MethodName) method_5_code 1 (some .int) :: ws) ({ frames := 0, cells := 0, slots := 0, locals := 0 } : Room)) (fun a U => a = #[(.int p0)] ∧ Z.Warmed39 U.vm ∧ U.heap = h0) (fun _ _ _ _ _ => True) (fun _ U o U' => ∃ v L, o = .returned v ∧ QP (.int (fDig p0)) h0 n0 v U'.heap L ∧ FrameEnd U o U' L ({ frames := 0, cells := 0, slots := 0, locals := 0 } : Room).cells ({ frames := 0, cells := 0, slots := 0, locals := 0 } : Room).slots) := by
  refine MetFree.of_bodySF (plainFor_of_name dig_pn) hisR ?_
  intro p e s m args below meth c s₁ Bd hml0 hP hK
  obtain ⟨rfl, hZ, hh⟩ := hP
  have hx := Bd.exec
  have hby := Bd.bytes
  have hml : c.maxLocals = 1 := hml0
  have hown : s.vm.findClass "com/example/floatline/floatline/io/DateTextProlepticMonthPinLaw" = some m.cls := findClass_of_methodNamed Bd.named
  have hnm := (name_of_methodNamed Bd.named Bd.method).1
  have X0 : Stand p l e ({ frames := 0, cells := 0, slots := 0, locals := 0 } : Room) s m #[(.int p0)] below meth c s₁ [] 0 0 := Stand.of_body Bd
  have e0 : s₁.heap = h0 := by rw [← hh, Bd.state]; rfl
  have N0 := Fr.nil n0
  obtain ⟨P0, hP0⟩ : ∃ P0 : State → Prop, P0 = fun t => Steps p.tables e below (s₁.setTop (entryFrame m #[(.int p0)] 1)) t := ⟨_, rfl⟩
  have K0 : ∀ t, Steps p.tables e below (s₁.setTop (mkF m 0 #[.val (.int p0)] [])) t → P0 t := by
    intro t k; rw [hP0]; exact castTop (dig_ef m p0) k
  have K1 : ∀ t, Steps p.tables e below (s₁.setTop (mkF m 3 #[.val (.int p0)] [(.int (48 : Int32)), (.int p0)])) t → P0 t := by
    intro t kt
    refine K0 t ?_
    show Steps p.tables e below (s₁.setTop (mkF m 0 #[.val (.int p0)] [])) t
    refine XS.iloadN X0.here hx rfl (hb hby dig_d0) rfl ?_
    show Steps p.tables e below (s₁.setTop (mkF m 1 #[.val (.int p0)] [(.int p0)])) t
    refine XS.bipush X0.here hx rfl (hb hby dig_d1) ?_
    exact kt
  obtain ⟨jx3, pcx3, Lx3, Sx3, hjx3, hdx3, K7⟩ : ∃ (jx3 : Int32) (pcx3 : Nat) (Lx3 : Array Slot) (Sx3 : List Value), jx3 = (if p0 < (48 : Int32) then (-1 : Int32) else (if (57 : Int32) < p0 then (-1 : Int32) else (p0 - (48 : Int32)))) ∧ decode c.code pcx3 = .ok (.ireturn, 1) ∧ ∀ t, Steps p.tables e below (s₁.setTop (mkF m pcx3 Lx3 ((.int jx3) :: Sx3))) t → P0 t := by
    by_cases hc3 : p0 < (48 : Int32)
    · have K2 : ∀ t, Steps p.tables e below (s₁.setTop (mkF m 18 #[.val (.int p0)] [(.int (-1 : Int32))])) t → P0 t := by
        intro t kt
        refine K1 t ?_
        show Steps p.tables e below (s₁.setTop (mkF m 3 #[.val (.int p0)] [(.int (48 : Int32)), (.int p0)])) t
        refine XS.icmpYes X0.here hx rfl (pc0 := 3) (pc' := 17) rfl (hb hby dig_d3) rfl (tlt hc3).1 (by decide) (by decide) ?_
        show Steps p.tables e below (s₁.setTop (mkF m 17 #[.val (.int p0)] [])) t
        refine XS.iconst X0.here hx rfl (hb hby dig_d17) ?_
        exact kt
      exact ⟨_, _, _, _, (if_pos hc3).symm, (hb hby dig_d18), K2⟩
    · have K3 : ∀ t, Steps p.tables e below (s₁.setTop (mkF m 9 #[.val (.int p0)] [(.int (57 : Int32)), (.int p0)])) t → P0 t := by
        intro t kt
        refine K1 t ?_
        show Steps p.tables e below (s₁.setTop (mkF m 3 #[.val (.int p0)] [(.int (48 : Int32)), (.int p0)])) t
        refine XS.icmpNo X0.here hx rfl (hb hby dig_d3) rfl (flt hc3).1 ?_
        show Steps p.tables e below (s₁.setTop (mkF m 6 #[.val (.int p0)] [])) t
        refine XS.iloadN X0.here hx rfl (hb hby dig_d6) rfl ?_
        show Steps p.tables e below (s₁.setTop (mkF m 7 #[.val (.int p0)] [(.int p0)])) t
        refine XS.bipush X0.here hx rfl (hb hby dig_d7) ?_
        exact kt
      obtain ⟨jx9, pcx9, Lx9, Sx9, hjx9, hdx9, K6⟩ : ∃ (jx9 : Int32) (pcx9 : Nat) (Lx9 : Array Slot) (Sx9 : List Value), jx9 = (if (57 : Int32) < p0 then (-1 : Int32) else (p0 - (48 : Int32))) ∧ decode c.code pcx9 = .ok (.ireturn, 1) ∧ ∀ t, Steps p.tables e below (s₁.setTop (mkF m pcx9 Lx9 ((.int jx9) :: Sx9))) t → P0 t := by
        by_cases hc9 : (57 : Int32) < p0
        · have K4 : ∀ t, Steps p.tables e below (s₁.setTop (mkF m 18 #[.val (.int p0)] [(.int (-1 : Int32))])) t → P0 t := by
            intro t kt
            refine K3 t ?_
            show Steps p.tables e below (s₁.setTop (mkF m 9 #[.val (.int p0)] [(.int (57 : Int32)), (.int p0)])) t
            refine XS.icmpYes X0.here hx rfl (pc0 := 9) (pc' := 17) rfl (hb hby dig_d9) rfl (tlt hc9).2.2.1 (by decide) (by decide) ?_
            show Steps p.tables e below (s₁.setTop (mkF m 17 #[.val (.int p0)] [])) t
            refine XS.iconst X0.here hx rfl (hb hby dig_d17) ?_
            exact kt
          exact ⟨_, _, _, _, (if_pos hc9).symm, (hb hby dig_d18), K4⟩
        · have K5 : ∀ t, Steps p.tables e below (s₁.setTop (mkF m 16 #[.val (.int p0)] [(.int (p0 - (48 : Int32)))])) t → P0 t := by
            intro t kt
            refine K3 t ?_
            show Steps p.tables e below (s₁.setTop (mkF m 9 #[.val (.int p0)] [(.int (57 : Int32)), (.int p0)])) t
            refine XS.icmpNo X0.here hx rfl (hb hby dig_d9) rfl (flt hc9).2.2.1 ?_
            show Steps p.tables e below (s₁.setTop (mkF m 12 #[.val (.int p0)] [])) t
            refine XS.iloadN X0.here hx rfl (hb hby dig_d12) rfl ?_
            show Steps p.tables e below (s₁.setTop (mkF m 13 #[.val (.int p0)] [(.int p0)])) t
            refine XS.bipush X0.here hx rfl (hb hby dig_d13) ?_
            show Steps p.tables e below (s₁.setTop (mkF m 15 #[.val (.int p0)] [(.int (48 : Int32)), (.int p0)])) t
            refine XS.isub X0.here hx rfl (hb hby dig_d15) rfl ?_
            exact kt
          exact ⟨_, _, _, _, (if_neg hc9).symm, (hb hby dig_d16), K5⟩
      subst hjx9
      exact ⟨_, _, _, _, (if_neg hc3).symm, hdx9, K6⟩
  obtain ⟨fs, hr, hrun, hended, hW, hsame⟩ := X0.leave (v := some (.int jx3)) (fun h => by rw [Bd.returns] at h; cases h)
  refine ⟨_, _, ?_, hrun, hended, _, _, rfl, ?_, ⟨_, rfl⟩, hW, hsame.mono (by decide) (by decide)⟩
  · skip
    have q := K7 _ (retI X0 hx Bd.returns hdx3 hr)
    rw [hP0] at q; exact q
  · show QP (.int (fDig p0)) h0 n0 _ s₁.heap _
    rw [e0]
    subst hjx3
    exact ⟨rfl, N0, rfl⟩
theorem dgs_d0 : decode prog_17_method_6_code 0 = .ok (.iconst 0, 1) := by decide +kernel
theorem dgs_d1 : decode prog_17_method_6_code 1 = .ok (.istore_n 3, 1) := by decide +kernel
theorem dgs_d2 : decode prog_17_method_6_code 2 = .ok (.iload_n 1, 1) := by decide +kernel
theorem dgs_d3 : decode prog_17_method_6_code 3 = .ok (.istore 4, 2) := by decide +kernel
theorem dgs_d5 : decode prog_17_method_6_code 5 = .ok (.iload 4, 2) := by decide +kernel
theorem dgs_d7 : decode prog_17_method_6_code 7 = .ok (.iload_n 2, 1) := by decide +kernel
theorem dgs_d8 : decode prog_17_method_6_code 8 = .ok (.if_icmp .ge 40, 3) := by decide +kernel
theorem dgs_d11 : decode prog_17_method_6_code 11 = .ok (.aload_n 0, 1) := by decide +kernel
theorem dgs_d12 : decode prog_17_method_6_code 12 = .ok (.iload 4, 2) := by decide +kernel
theorem dgs_d14 : decode prog_17_method_6_code 14 = .ok (.baload, 1) := by decide +kernel
theorem dgs_d15 : decode prog_17_method_6_code 15 = .ok (.bipush 48, 2) := by decide +kernel
theorem dgs_d17 : decode prog_17_method_6_code 17 = .ok (.isub, 1) := by decide +kernel
theorem dgs_d18 : decode prog_17_method_6_code 18 = .ok (.istore 5, 2) := by decide +kernel
theorem dgs_d20 : decode prog_17_method_6_code 20 = .ok (.iload 5, 2) := by decide +kernel
theorem dgs_d22 : decode prog_17_method_6_code 22 = .ok (.ifCond .lt 10, 3) := by decide +kernel
theorem dgs_d25 : decode prog_17_method_6_code 25 = .ok (.iload 5, 2) := by decide +kernel
theorem dgs_d27 : decode prog_17_method_6_code 27 = .ok (.bipush 9, 2) := by decide +kernel
theorem dgs_d29 : decode prog_17_method_6_code 29 = .ok (.if_icmp .le 5, 3) := by decide +kernel
theorem dgs_d32 : decode prog_17_method_6_code 32 = .ok (.iconst (-1), 1) := by decide +kernel
theorem dgs_d33 : decode prog_17_method_6_code 33 = .ok (.ireturn, 1) := by decide +kernel
theorem dgs_d34 : decode prog_17_method_6_code 34 = .ok (.iload_n 3, 1) := by decide +kernel
theorem dgs_d35 : decode prog_17_method_6_code 35 = .ok (.bipush 10, 2) := by decide +kernel
theorem dgs_d37 : decode prog_17_method_6_code 37 = .ok (.imul, 1) := by decide +kernel
theorem dgs_d38 : decode prog_17_method_6_code 38 = .ok (.iload 5, 2) := by decide +kernel
theorem dgs_d40 : decode prog_17_method_6_code 40 = .ok (.iadd, 1) := by decide +kernel
theorem dgs_d41 : decode prog_17_method_6_code 41 = .ok (.istore_n 3, 1) := by decide +kernel
theorem dgs_d42 : decode prog_17_method_6_code 42 = .ok (.iinc 4 1, 3) := by decide +kernel
theorem dgs_d45 : decode prog_17_method_6_code 45 = .ok (.goto (-40), 3) := by decide +kernel
theorem dgs_d48 : decode prog_17_method_6_code 48 = .ok (.iload_n 3, 1) := by decide +kernel
theorem dgs_d49 : decode prog_17_method_6_code 49 = .ok (.ireturn, 1) := by decide +kernel
theorem dgs_pn : plainName "com/example/floatline/floatline/io/DateText" = true := by first | (simp [plainName, overriddenIn]; done) | decide +kernel
theorem dgs_ef (m : MethodId) (x0 : Addr) (x1 : Int32) (x2 : Int32) : entryFrame m #[(.ref x0), (.int x1), (.int x2)] 6 = mkF m 0 #[.val (.ref x0), .val (.int x1), .val (.int x2), .unset, .unset, .unset] [] := by first | (simp [entryFrame, mkF, argsToLocals, Value.category]; done) | rfl
set_option maxRecDepth 65536 in
set_option maxHeartbeats 40000000 in
theorem rm_dgs (l : Launch) (Z : State) (a0 : Array Value) (hw : ∀ d ∈ tables_1, d.before a0 Z = true) (ws : List Jvm.Cond) (r0 : Addr) (p1 : Int32) (p2 : Int32) (fa : Nat → Int32) (i0 k0 : Nat) (h0 : Heap) (n0 : Nat) (Z0 : n0 ≤ h0.size) (Va : IA Z h0 r0 .byte 10 fa) (hp1 : p1 = Int32.ofNat i0) (hp2 : p2 = Int32.ofNat (i0 + k0)) (hn : i0 + k0 ≤ 10) :
    MetFree l (⟨"com/example/floatline/floatline/io/DateText", "digits", "([BII)I"⟩ : MethodName) (head1 (Jvm.Cond.code (⟨"com/example/floatline/floatline/io/DateText", "digits", "([BII)I"⟩ : MethodName) prog_17_method_6_code 6 (some .int) :: ws) ({ frames := 0, cells := 0, slots := 0, locals := 0 } : Room)) (fun a U => a = #[(.ref r0), (.int p1), (.int p2)] ∧ Z.Warmed39 U.vm ∧ U.heap = h0) (fun _ _ _ _ _ => True) (fun _ U o U' => ∃ v L, o = .returned v ∧ QP (.int (digs fa k0 i0 0)) h0 n0 v U'.heap L ∧ FrameEnd U o U' L ({ frames := 0, cells := 0, slots := 0, locals := 0 } : Room).cells ({ frames := 0, cells := 0, slots := 0, locals := 0 } : Room).slots) := by
  refine MetFree.of_bodySF (plainFor_of_name dgs_pn) hisR ?_
  intro p e s m args below meth c s₁ Bd hml0 hP hK
  obtain ⟨rfl, hZ, hh⟩ := hP
  have hx := Bd.exec
  have hby := Bd.bytes
  have hml : c.maxLocals = 6 := hml0
  have hown : s.vm.findClass "com/example/floatline/floatline/io/DateText" = some m.cls := findClass_of_methodNamed Bd.named
  have hnm := (name_of_methodNamed Bd.named Bd.method).1
  have X0 : Stand p l e ({ frames := 0, cells := 0, slots := 0, locals := 0 } : Room) s m #[(.ref r0), (.int p1), (.int p2)] below meth c s₁ [] 0 0 := Stand.of_body Bd
  have e0 : s₁.heap = h0 := by rw [← hh, Bd.state]; rfl
  have N0 := Fr.nil n0
  obtain ⟨P0, hP0⟩ : ∃ P0 : State → Prop, P0 = fun t => Steps p.tables e below (s₁.setTop (entryFrame m #[(.ref r0), (.int p1), (.int p2)] 6)) t := ⟨_, rfl⟩
  have K0 : ∀ t, Steps p.tables e below (s₁.setTop (mkF m 0 #[.val (.ref r0), .val (.int p1), .val (.int p2), .unset, .unset, .unset] [])) t → P0 t := by
    intro t k; rw [hP0]; exact castTop (dgs_ef m r0 p1 p2) k
  have K1 : ∀ t, Steps p.tables e below (s₁.setTop (mkF m 5 #[.val (.ref r0), .val (.int p1), .val (.int p2), .val (.int (0 : Int32)), .val (.int p1), .unset] [])) t → P0 t := by
    intro t kt
    refine K0 t ?_
    show Steps p.tables e below (s₁.setTop (mkF m 0 #[.val (.ref r0), .val (.int p1), .val (.int p2), .unset, .unset, .unset] [])) t
    refine XS.iconst X0.here hx rfl (hb hby dgs_d0) ?_
    show Steps p.tables e below (s₁.setTop (mkF m 1 #[.val (.ref r0), .val (.int p1), .val (.int p2), .unset, .unset, .unset] [(.int (0 : Int32))])) t
    refine XS.istoreN X0.here hx rfl (hb hby dgs_d1) rfl (l' := #[.val (.ref r0), .val (.int p1), .val (.int p2), .val (.int (0 : Int32)), .unset, .unset]) rfl ?_
    show Steps p.tables e below (s₁.setTop (mkF m 2 #[.val (.ref r0), .val (.int p1), .val (.int p2), .val (.int (0 : Int32)), .unset, .unset] [])) t
    refine XS.iloadN X0.here hx rfl (hb hby dgs_d2) rfl ?_
    show Steps p.tables e below (s₁.setTop (mkF m 3 #[.val (.ref r0), .val (.int p1), .val (.int p2), .val (.int (0 : Int32)), .unset, .unset] [(.int p1)])) t
    refine XS.istore X0.here hx rfl (hb hby dgs_d3) rfl (l' := #[.val (.ref r0), .val (.int p1), .val (.int p2), .val (.int (0 : Int32)), .val (.int p1), .unset]) rfl ?_
    exact kt
  have KL : ∀ (k i : Nat) (r z4 : Int32) (s5 : Slot), z4 = Int32.ofNat i → i + k = i0 + k0 → One s5 → ∃ (pcR : Nat) (LR : Array Slot) (SR : List Value), decode c.code pcR = .ok (.ireturn, 1) ∧ ∀ t, Steps p.tables e below (s₁.setTop (mkF m pcR LR (.int (digs fa k i r) :: SR))) t → Steps p.tables e below (s₁.setTop (mkF m 5 #[.val (.ref r0), .val (.int p1), .val (.int p2), .val (.int r), .val (.int z4), s5] [])) t := by
    intro k; induction k with
    | zero =>
      intro i r z4 s5 h4 hik ho5
      subst h4
      obtain ⟨P1, hP1⟩ : ∃ P : State → Prop, P = fun t => Steps p.tables e below (s₁.setTop (mkF m 5 #[.val (.ref r0), .val (.int p1), .val (.int p2), .val (.int r), .val (.int (Int32.ofNat i)), s5] [])) t := ⟨_, rfl⟩
      have KP : ∀ t, Steps p.tables e below (s₁.setTop (mkF m 5 #[.val (.ref r0), .val (.int p1), .val (.int p2), .val (.int r), .val (.int (Int32.ofNat i)), s5] [])) t → P1 t := by rw [hP1]; exact fun t k => k
      have hlt : ¬ (Int32.ofNat i) < p2 := by rw [hp2, own_ofNat_lt (by omega) (by omega)]; omega
      have K2 : ∀ t, Steps p.tables e below (s₁.setTop (mkF m 49 #[.val (.ref r0), .val (.int p1), .val (.int p2), .val (.int r), .val (.int (Int32.ofNat i)), s5] [(.int r)])) t → P1 t := by
        intro t kt
        refine KP t ?_
        show Steps p.tables e below (s₁.setTop (mkF m 5 #[.val (.ref r0), .val (.int p1), .val (.int p2), .val (.int r), .val (.int (Int32.ofNat i)), s5] [])) t
        refine XS.iload X0.here hx rfl (hb hby dgs_d5) rfl ?_
        show Steps p.tables e below (s₁.setTop (mkF m 7 #[.val (.ref r0), .val (.int p1), .val (.int p2), .val (.int r), .val (.int (Int32.ofNat i)), s5] [(.int (Int32.ofNat i))])) t
        refine XS.iloadN X0.here hx rfl (hb hby dgs_d7) rfl ?_
        show Steps p.tables e below (s₁.setTop (mkF m 8 #[.val (.ref r0), .val (.int p1), .val (.int p2), .val (.int r), .val (.int (Int32.ofNat i)), s5] [(.int p2), (.int (Int32.ofNat i))])) t
        refine XS.icmpYes X0.here hx rfl (pc0 := 8) (pc' := 48) rfl (hb hby dgs_d8) rfl (flt hlt).2.1 (by decide) (by decide) ?_
        show Steps p.tables e below (s₁.setTop (mkF m 48 #[.val (.ref r0), .val (.int p1), .val (.int p2), .val (.int r), .val (.int (Int32.ofNat i)), s5] [])) t
        refine XS.iloadN X0.here hx rfl (hb hby dgs_d48) rfl ?_
        exact kt
      rw [hP1] at K2
      exact ⟨_, _, _, (hb hby dgs_d49), K2⟩
    | succ k ih =>
      intro i r z4 s5 h4 hik ho5
      subst h4
      obtain ⟨P1, hP1⟩ : ∃ P : State → Prop, P = fun t => Steps p.tables e below (s₁.setTop (mkF m 5 #[.val (.ref r0), .val (.int p1), .val (.int p2), .val (.int r), .val (.int (Int32.ofNat i)), s5] [])) t := ⟨_, rfl⟩
      have KP : ∀ t, Steps p.tables e below (s₁.setTop (mkF m 5 #[.val (.ref r0), .val (.int p1), .val (.int p2), .val (.int r), .val (.int (Int32.ofNat i)), s5] [])) t → P1 t := by rw [hP1]; exact fun t k => k
      have hlt : (Int32.ofNat i) < p2 := by rw [hp2, own_ofNat_lt (by omega) (by omega)]; omega
      have hin : ¬ ((Int32.ofNat i) < 0 ∨ 10 ≤ (Int32.ofNat i).toNatClampNeg) := own_ofNat_in (by omega) (by decide)
      have hfi : fa (Int32.ofNat i).toNatClampNeg = fa i := by rw [own_ofNat_nat (by omega)]
      have K3 : ∀ t, Steps p.tables e below (s₁.setTop (mkF m 22 #[.val (.ref r0), .val (.int p1), .val (.int p2), .val (.int r), .val (.int (Int32.ofNat i)), .val (.int ((fa ((Int32.ofNat i)).toNatClampNeg) - (48 : Int32)))] [(.int ((fa ((Int32.ofNat i)).toNatClampNeg) - (48 : Int32)))])) t → P1 t := by
        intro t kt
        refine KP t ?_
        show Steps p.tables e below (s₁.setTop (mkF m 5 #[.val (.ref r0), .val (.int p1), .val (.int p2), .val (.int r), .val (.int (Int32.ofNat i)), s5] [])) t
        refine XS.iload X0.here hx rfl (hb hby dgs_d5) rfl ?_
        show Steps p.tables e below (s₁.setTop (mkF m 7 #[.val (.ref r0), .val (.int p1), .val (.int p2), .val (.int r), .val (.int (Int32.ofNat i)), s5] [(.int (Int32.ofNat i))])) t
        refine XS.iloadN X0.here hx rfl (hb hby dgs_d7) rfl ?_
        show Steps p.tables e below (s₁.setTop (mkF m 8 #[.val (.ref r0), .val (.int p1), .val (.int p2), .val (.int r), .val (.int (Int32.ofNat i)), s5] [(.int p2), (.int (Int32.ofNat i))])) t
        refine XS.icmpNo X0.here hx rfl (hb hby dgs_d8) rfl (tlt hlt).2.1 ?_
        show Steps p.tables e below (s₁.setTop (mkF m 11 #[.val (.ref r0), .val (.int p1), .val (.int p2), .val (.int r), .val (.int (Int32.ofNat i)), s5] [])) t
        refine XS.aloadN X0.here hx rfl (hb hby dgs_d11) rfl rfl ?_
        show Steps p.tables e below (s₁.setTop (mkF m 12 #[.val (.ref r0), .val (.int p1), .val (.int p2), .val (.int r), .val (.int (Int32.ofNat i)), s5] [(.ref r0)])) t
        refine XS.iload X0.here hx rfl (hb hby dgs_d12) rfl ?_
        show Steps p.tables e below (s₁.setTop (mkF m 14 #[.val (.ref r0), .val (.int p1), .val (.int p2), .val (.int r), .val (.int (Int32.ofNat i)), s5] [(.int (Int32.ofNat i)), (.ref r0)])) t
        refine ldBA X0 hx hZ e0 Va (j := (Int32.ofNat i)) hin (g := (mkF m 14 #[.val (.ref r0), .val (.int p1), .val (.int p2), .val (.int r), .val (.int (Int32.ofNat i)), s5] [(.int (Int32.ofNat i)), (.ref r0)])) rfl rfl (hb hby dgs_d14) _ ?_
        show Steps p.tables e below (s₁.setTop (mkF m 15 #[.val (.ref r0), .val (.int p1), .val (.int p2), .val (.int r), .val (.int (Int32.ofNat i)), s5] [(.int (fa ((Int32.ofNat i)).toNatClampNeg))])) t
        refine XS.bipush X0.here hx rfl (hb hby dgs_d15) ?_
        show Steps p.tables e below (s₁.setTop (mkF m 17 #[.val (.ref r0), .val (.int p1), .val (.int p2), .val (.int r), .val (.int (Int32.ofNat i)), s5] [(.int (48 : Int32)), (.int (fa ((Int32.ofNat i)).toNatClampNeg))])) t
        refine XS.isub X0.here hx rfl (hb hby dgs_d17) rfl ?_
        show Steps p.tables e below (s₁.setTop (mkF m 18 #[.val (.ref r0), .val (.int p1), .val (.int p2), .val (.int r), .val (.int (Int32.ofNat i)), s5] [(.int ((fa ((Int32.ofNat i)).toNatClampNeg) - (48 : Int32)))])) t
        refine XS.istore X0.here hx rfl (hb hby dgs_d18) rfl (l' := #[.val (.ref r0), .val (.int p1), .val (.int p2), .val (.int r), .val (.int (Int32.ofNat i)), .val (.int ((fa ((Int32.ofNat i)).toNatClampNeg) - (48 : Int32)))]) (XS.store1 (o := s5) rfl ho5 rfl) ?_
        show Steps p.tables e below (s₁.setTop (mkF m 20 #[.val (.ref r0), .val (.int p1), .val (.int p2), .val (.int r), .val (.int (Int32.ofNat i)), .val (.int ((fa ((Int32.ofNat i)).toNatClampNeg) - (48 : Int32)))] [])) t
        refine XS.iload X0.here hx rfl (hb hby dgs_d20) rfl ?_
        exact kt
      by_cases hd0 : ((fa ((Int32.ofNat i)).toNatClampNeg) - (48 : Int32)) < (0 : Int32)
      · have hd1 := hd0; rw [hfi] at hd1
        have K4 : ∀ t, Steps p.tables e below (s₁.setTop (mkF m 33 #[.val (.ref r0), .val (.int p1), .val (.int p2), .val (.int r), .val (.int (Int32.ofNat i)), .val (.int ((fa ((Int32.ofNat i)).toNatClampNeg) - (48 : Int32)))] [(.int (-1 : Int32))])) t → P1 t := by
          intro t kt
          refine K3 t ?_
          show Steps p.tables e below (s₁.setTop (mkF m 22 #[.val (.ref r0), .val (.int p1), .val (.int p2), .val (.int r), .val (.int (Int32.ofNat i)), .val (.int ((fa ((Int32.ofNat i)).toNatClampNeg) - (48 : Int32)))] [(.int ((fa ((Int32.ofNat i)).toNatClampNeg) - (48 : Int32)))])) t
          refine XS.ifYes X0.here hx rfl (pc0 := 22) (pc' := 32) rfl (hb hby dgs_d22) rfl ((if0 _ _).trans (tlt hd0).1) (by decide) (by decide) ?_
          show Steps p.tables e below (s₁.setTop (mkF m 32 #[.val (.ref r0), .val (.int p1), .val (.int p2), .val (.int r), .val (.int (Int32.ofNat i)), .val (.int ((fa ((Int32.ofNat i)).toNatClampNeg) - (48 : Int32)))] [])) t
          refine XS.iconst X0.here hx rfl (hb hby dgs_d32) ?_
          exact kt
        rw [hP1] at K4
        rw [show digs fa (k + 1) i r = -1 from if_pos hd1]
        exact ⟨_, _, _, (hb hby dgs_d33), K4⟩
      · have hd1 := hd0; rw [hfi] at hd1
        by_cases he0 : (9 : Int32) < ((fa ((Int32.ofNat i)).toNatClampNeg) - (48 : Int32))
        · have he1 := he0; rw [hfi] at he1
          have K5 : ∀ t, Steps p.tables e below (s₁.setTop (mkF m 33 #[.val (.ref r0), .val (.int p1), .val (.int p2), .val (.int r), .val (.int (Int32.ofNat i)), .val (.int ((fa ((Int32.ofNat i)).toNatClampNeg) - (48 : Int32)))] [(.int (-1 : Int32))])) t → P1 t := by
            intro t kt
            refine K3 t ?_
            show Steps p.tables e below (s₁.setTop (mkF m 22 #[.val (.ref r0), .val (.int p1), .val (.int p2), .val (.int r), .val (.int (Int32.ofNat i)), .val (.int ((fa ((Int32.ofNat i)).toNatClampNeg) - (48 : Int32)))] [(.int ((fa ((Int32.ofNat i)).toNatClampNeg) - (48 : Int32)))])) t
            refine XS.ifNo X0.here hx rfl (hb hby dgs_d22) rfl ((if0 _ _).trans (flt hd0).1) ?_
            show Steps p.tables e below (s₁.setTop (mkF m 25 #[.val (.ref r0), .val (.int p1), .val (.int p2), .val (.int r), .val (.int (Int32.ofNat i)), .val (.int ((fa ((Int32.ofNat i)).toNatClampNeg) - (48 : Int32)))] [])) t
            refine XS.iload X0.here hx rfl (hb hby dgs_d25) rfl ?_
            show Steps p.tables e below (s₁.setTop (mkF m 27 #[.val (.ref r0), .val (.int p1), .val (.int p2), .val (.int r), .val (.int (Int32.ofNat i)), .val (.int ((fa ((Int32.ofNat i)).toNatClampNeg) - (48 : Int32)))] [(.int ((fa ((Int32.ofNat i)).toNatClampNeg) - (48 : Int32)))])) t
            refine XS.bipush X0.here hx rfl (hb hby dgs_d27) ?_
            show Steps p.tables e below (s₁.setTop (mkF m 29 #[.val (.ref r0), .val (.int p1), .val (.int p2), .val (.int r), .val (.int (Int32.ofNat i)), .val (.int ((fa ((Int32.ofNat i)).toNatClampNeg) - (48 : Int32)))] [(.int (9 : Int32)), (.int ((fa ((Int32.ofNat i)).toNatClampNeg) - (48 : Int32)))])) t
            refine XS.icmpNo X0.here hx rfl (hb hby dgs_d29) rfl (tlt he0).2.2.2 ?_
            show Steps p.tables e below (s₁.setTop (mkF m 32 #[.val (.ref r0), .val (.int p1), .val (.int p2), .val (.int r), .val (.int (Int32.ofNat i)), .val (.int ((fa ((Int32.ofNat i)).toNatClampNeg) - (48 : Int32)))] [])) t
            refine XS.iconst X0.here hx rfl (hb hby dgs_d32) ?_
            exact kt
          rw [hP1] at K5
          rw [show digs fa (k + 1) i r = -1 from (if_neg hd1).trans (if_pos he1)]
          exact ⟨_, _, _, (hb hby dgs_d33), K5⟩
        · have he1 := he0; rw [hfi] at he1
          have K6 : ∀ t, Steps p.tables e below (s₁.setTop (mkF m 5 #[.val (.ref r0), .val (.int p1), .val (.int p2), .val (.int ((r * (10 : Int32)) + ((fa ((Int32.ofNat i)).toNatClampNeg) - (48 : Int32)))), .val (.int ((Int32.ofNat i) + (1 : Int32))), .val (.int ((fa ((Int32.ofNat i)).toNatClampNeg) - (48 : Int32)))] [])) t → P1 t := by
            intro t kt
            refine K3 t ?_
            show Steps p.tables e below (s₁.setTop (mkF m 22 #[.val (.ref r0), .val (.int p1), .val (.int p2), .val (.int r), .val (.int (Int32.ofNat i)), .val (.int ((fa ((Int32.ofNat i)).toNatClampNeg) - (48 : Int32)))] [(.int ((fa ((Int32.ofNat i)).toNatClampNeg) - (48 : Int32)))])) t
            refine XS.ifNo X0.here hx rfl (hb hby dgs_d22) rfl ((if0 _ _).trans (flt hd0).1) ?_
            show Steps p.tables e below (s₁.setTop (mkF m 25 #[.val (.ref r0), .val (.int p1), .val (.int p2), .val (.int r), .val (.int (Int32.ofNat i)), .val (.int ((fa ((Int32.ofNat i)).toNatClampNeg) - (48 : Int32)))] [])) t
            refine XS.iload X0.here hx rfl (hb hby dgs_d25) rfl ?_
            show Steps p.tables e below (s₁.setTop (mkF m 27 #[.val (.ref r0), .val (.int p1), .val (.int p2), .val (.int r), .val (.int (Int32.ofNat i)), .val (.int ((fa ((Int32.ofNat i)).toNatClampNeg) - (48 : Int32)))] [(.int ((fa ((Int32.ofNat i)).toNatClampNeg) - (48 : Int32)))])) t
            refine XS.bipush X0.here hx rfl (hb hby dgs_d27) ?_
            show Steps p.tables e below (s₁.setTop (mkF m 29 #[.val (.ref r0), .val (.int p1), .val (.int p2), .val (.int r), .val (.int (Int32.ofNat i)), .val (.int ((fa ((Int32.ofNat i)).toNatClampNeg) - (48 : Int32)))] [(.int (9 : Int32)), (.int ((fa ((Int32.ofNat i)).toNatClampNeg) - (48 : Int32)))])) t
            refine XS.icmpYes X0.here hx rfl (pc0 := 29) (pc' := 34) rfl (hb hby dgs_d29) rfl (flt he0).2.2.2 (by decide) (by decide) ?_
            show Steps p.tables e below (s₁.setTop (mkF m 34 #[.val (.ref r0), .val (.int p1), .val (.int p2), .val (.int r), .val (.int (Int32.ofNat i)), .val (.int ((fa ((Int32.ofNat i)).toNatClampNeg) - (48 : Int32)))] [])) t
            refine XS.iloadN X0.here hx rfl (hb hby dgs_d34) rfl ?_
            show Steps p.tables e below (s₁.setTop (mkF m 35 #[.val (.ref r0), .val (.int p1), .val (.int p2), .val (.int r), .val (.int (Int32.ofNat i)), .val (.int ((fa ((Int32.ofNat i)).toNatClampNeg) - (48 : Int32)))] [(.int r)])) t
            refine XS.bipush X0.here hx rfl (hb hby dgs_d35) ?_
            show Steps p.tables e below (s₁.setTop (mkF m 37 #[.val (.ref r0), .val (.int p1), .val (.int p2), .val (.int r), .val (.int (Int32.ofNat i)), .val (.int ((fa ((Int32.ofNat i)).toNatClampNeg) - (48 : Int32)))] [(.int (10 : Int32)), (.int r)])) t
            refine XS.imul X0.here hx rfl (hb hby dgs_d37) rfl ?_
            show Steps p.tables e below (s₁.setTop (mkF m 38 #[.val (.ref r0), .val (.int p1), .val (.int p2), .val (.int r), .val (.int (Int32.ofNat i)), .val (.int ((fa ((Int32.ofNat i)).toNatClampNeg) - (48 : Int32)))] [(.int (r * (10 : Int32)))])) t
            refine XS.iload X0.here hx rfl (hb hby dgs_d38) rfl ?_
            show Steps p.tables e below (s₁.setTop (mkF m 40 #[.val (.ref r0), .val (.int p1), .val (.int p2), .val (.int r), .val (.int (Int32.ofNat i)), .val (.int ((fa ((Int32.ofNat i)).toNatClampNeg) - (48 : Int32)))] [(.int ((fa ((Int32.ofNat i)).toNatClampNeg) - (48 : Int32))), (.int (r * (10 : Int32)))])) t
            refine XS.iadd X0.here hx rfl (hb hby dgs_d40) rfl ?_
            show Steps p.tables e below (s₁.setTop (mkF m 41 #[.val (.ref r0), .val (.int p1), .val (.int p2), .val (.int r), .val (.int (Int32.ofNat i)), .val (.int ((fa ((Int32.ofNat i)).toNatClampNeg) - (48 : Int32)))] [(.int ((r * (10 : Int32)) + ((fa ((Int32.ofNat i)).toNatClampNeg) - (48 : Int32))))])) t
            refine XS.istoreN X0.here hx rfl (hb hby dgs_d41) rfl (l' := #[.val (.ref r0), .val (.int p1), .val (.int p2), .val (.int ((r * (10 : Int32)) + ((fa ((Int32.ofNat i)).toNatClampNeg) - (48 : Int32)))), .val (.int (Int32.ofNat i)), .val (.int ((fa ((Int32.ofNat i)).toNatClampNeg) - (48 : Int32)))]) rfl ?_
            show Steps p.tables e below (s₁.setTop (mkF m 42 #[.val (.ref r0), .val (.int p1), .val (.int p2), .val (.int ((r * (10 : Int32)) + ((fa ((Int32.ofNat i)).toNatClampNeg) - (48 : Int32)))), .val (.int (Int32.ofNat i)), .val (.int ((fa ((Int32.ofNat i)).toNatClampNeg) - (48 : Int32)))] [])) t
            refine XS.iinc X0.here hx rfl (hb hby dgs_d42) rfl (l' := #[.val (.ref r0), .val (.int p1), .val (.int p2), .val (.int ((r * (10 : Int32)) + ((fa ((Int32.ofNat i)).toNatClampNeg) - (48 : Int32)))), .val (.int ((Int32.ofNat i) + (1 : Int32))), .val (.int ((fa ((Int32.ofNat i)).toNatClampNeg) - (48 : Int32)))]) rfl ?_
            show Steps p.tables e below (s₁.setTop (mkF m 45 #[.val (.ref r0), .val (.int p1), .val (.int p2), .val (.int ((r * (10 : Int32)) + ((fa ((Int32.ofNat i)).toNatClampNeg) - (48 : Int32)))), .val (.int ((Int32.ofNat i) + (1 : Int32))), .val (.int ((fa ((Int32.ofNat i)).toNatClampNeg) - (48 : Int32)))] [])) t
            refine XS.goto X0.here hx rfl (pc0 := 45) (pc' := 5) rfl (hb hby dgs_d45) (by decide) (by decide) ?_
            exact kt
          rw [hP1] at K6
          rw [show digs fa (k + 1) i r = digs fa k (i + 1) ((r * (10 : Int32)) + (fa i - (48 : Int32))) from (if_neg hd1).trans (if_neg he1), ← hfi]
          obtain ⟨pcR, LR, SR, hd', K'⟩ := ih (i + 1) ((r * (10 : Int32)) + ((fa ((Int32.ofNat i)).toNatClampNeg) - (48 : Int32))) _ (.val (.int ((fa ((Int32.ofNat i)).toNatClampNeg) - (48 : Int32)))) (own_ofNat_succ i) (by omega) (One.val rfl)
          exact ⟨pcR, LR, SR, hd', fun t kt => K6 t (K' t kt)⟩
  obtain ⟨pcR, LR, SR, hdR, KR⟩ := KL k0 i0 0 p1 .unset hp1 rfl One.u
  have KZ : ∀ t, Steps p.tables e below (s₁.setTop (mkF m pcR LR (.int (digs fa k0 i0 0) :: SR))) t → P0 t := fun t kt => K1 t (KR t kt)
  obtain ⟨fs, hr, hrun, hended, hW, hsame⟩ := X0.leave (v := some (.int (digs fa k0 i0 0))) (fun h => by rw [Bd.returns] at h; cases h)
  refine ⟨_, _, ?_, hrun, hended, _, _, rfl, ?_, ⟨_, rfl⟩, hW, hsame.mono (by decide) (by decide)⟩
  · skip
    have q := KZ _ (retI X0 hx Bd.returns hdR hr)
    rw [hP0] at q; exact q
  · show QP _ h0 n0 _ s₁.heap _
    rw [e0]
    exact ⟨rfl, N0, rfl⟩
theorem pmo_d0 : decode prog_17_method_3_code 0 = .ok (.iload_n 2, 1) := by decide +kernel
theorem pmo_d1 : decode prog_17_method_3_code 1 = .ok (.iload_n 1, 1) := by decide +kernel
theorem pmo_d2 : decode prog_17_method_3_code 2 = .ok (.isub, 1) := by decide +kernel
theorem pmo_d3 : decode prog_17_method_3_code 3 = .ok (.bipush 7, 2) := by decide +kernel
theorem pmo_d5 : decode prog_17_method_3_code 5 = .ok (.if_icmp .ne 13, 3) := by decide +kernel
theorem pmo_d8 : decode prog_17_method_3_code 8 = .ok (.aload_n 0, 1) := by decide +kernel
theorem pmo_d9 : decode prog_17_method_3_code 9 = .ok (.iload_n 1, 1) := by decide +kernel
theorem pmo_d10 : decode prog_17_method_3_code 10 = .ok (.iconst 4, 1) := by decide +kernel
theorem pmo_d11 : decode prog_17_method_3_code 11 = .ok (.iadd, 1) := by decide +kernel
theorem pmo_d12 : decode prog_17_method_3_code 12 = .ok (.baload, 1) := by decide +kernel
theorem pmo_d13 : decode prog_17_method_3_code 13 = .ok (.bipush 45, 2) := by decide +kernel
theorem pmo_d15 : decode prog_17_method_3_code 15 = .ok (.if_icmp .eq 5, 3) := by decide +kernel
theorem pmo_d18 : decode prog_17_method_3_code 18 = .ok (.iconst (-1), 1) := by decide +kernel
theorem pmo_d19 : decode prog_17_method_3_code 19 = .ok (.ireturn, 1) := by decide +kernel
theorem pmo_d20 : decode prog_17_method_3_code 20 = .ok (.aload_n 0, 1) := by decide +kernel
theorem pmo_d21 : decode prog_17_method_3_code 21 = .ok (.iload_n 1, 1) := by decide +kernel
theorem pmo_d22 : decode prog_17_method_3_code 22 = .ok (.iload_n 1, 1) := by decide +kernel
theorem pmo_d23 : decode prog_17_method_3_code 23 = .ok (.iconst 4, 1) := by decide +kernel
theorem pmo_d24 : decode prog_17_method_3_code 24 = .ok (.iadd, 1) := by decide +kernel
theorem pmo_d25 : decode prog_17_method_3_code 25 = .ok (.invokestatic 39, 3) := by decide +kernel
theorem pmo_d28 : decode prog_17_method_3_code 28 = .ok (.istore_n 3, 1) := by decide +kernel
theorem pmo_d29 : decode prog_17_method_3_code 29 = .ok (.aload_n 0, 1) := by decide +kernel
theorem pmo_d30 : decode prog_17_method_3_code 30 = .ok (.iload_n 1, 1) := by decide +kernel
theorem pmo_d31 : decode prog_17_method_3_code 31 = .ok (.iconst 5, 1) := by decide +kernel
theorem pmo_d32 : decode prog_17_method_3_code 32 = .ok (.iadd, 1) := by decide +kernel
theorem pmo_d33 : decode prog_17_method_3_code 33 = .ok (.iload_n 1, 1) := by decide +kernel
theorem pmo_d34 : decode prog_17_method_3_code 34 = .ok (.bipush 7, 2) := by decide +kernel
theorem pmo_d36 : decode prog_17_method_3_code 36 = .ok (.iadd, 1) := by decide +kernel
theorem pmo_d37 : decode prog_17_method_3_code 37 = .ok (.invokestatic 39, 3) := by decide +kernel
theorem pmo_d40 : decode prog_17_method_3_code 40 = .ok (.istore 4, 2) := by decide +kernel
theorem pmo_d42 : decode prog_17_method_3_code 42 = .ok (.iload_n 3, 1) := by decide +kernel
theorem pmo_d43 : decode prog_17_method_3_code 43 = .ok (.ifCond .lt 28, 3) := by decide +kernel
theorem pmo_d46 : decode prog_17_method_3_code 46 = .ok (.iload 4, 2) := by decide +kernel
theorem pmo_d48 : decode prog_17_method_3_code 48 = .ok (.iconst 1, 1) := by decide +kernel
theorem pmo_d49 : decode prog_17_method_3_code 49 = .ok (.if_icmp .lt 22, 3) := by decide +kernel
theorem pmo_d52 : decode prog_17_method_3_code 52 = .ok (.iload 4, 2) := by decide +kernel
theorem pmo_d54 : decode prog_17_method_3_code 54 = .ok (.bipush 12, 2) := by decide +kernel
theorem pmo_d56 : decode prog_17_method_3_code 56 = .ok (.if_icmp .gt 15, 3) := by decide +kernel
theorem pmo_d59 : decode prog_17_method_3_code 59 = .ok (.iload_n 3, 1) := by decide +kernel
theorem pmo_d60 : decode prog_17_method_3_code 60 = .ok (.bipush 12, 2) := by decide +kernel
theorem pmo_d62 : decode prog_17_method_3_code 62 = .ok (.imul, 1) := by decide +kernel
theorem pmo_d63 : decode prog_17_method_3_code 63 = .ok (.iload 4, 2) := by decide +kernel
theorem pmo_d65 : decode prog_17_method_3_code 65 = .ok (.iadd, 1) := by decide +kernel
theorem pmo_d66 : decode prog_17_method_3_code 66 = .ok (.iconst 1, 1) := by decide +kernel
theorem pmo_d67 : decode prog_17_method_3_code 67 = .ok (.isub, 1) := by decide +kernel
theorem pmo_d68 : decode prog_17_method_3_code 68 = .ok (.goto 4, 3) := by decide +kernel
theorem pmo_d71 : decode prog_17_method_3_code 71 = .ok (.iconst (-1), 1) := by decide +kernel
theorem pmo_d72 : decode prog_17_method_3_code 72 = .ok (.ireturn, 1) := by decide +kernel
theorem pmo_pn : plainName "com/example/floatline/floatline/io/DateText" = true := by first | (simp [plainName, overriddenIn]; done) | decide +kernel
theorem pmo_pd0 : parseMethodDescriptor "([BII)I" = some ⟨[(.array .byte), .int, .int], some .int⟩ := by decide +kernel
theorem pmo_ef (m : MethodId) (x0 : Addr) (x1 : Int32) (x2 : Int32) : entryFrame m #[(.ref x0), (.int x1), (.int x2)] 5 = mkF m 0 #[.val (.ref x0), .val (.int x1), .val (.int x2), .unset, .unset] [] := by first | (simp [entryFrame, mkF, argsToLocals, Value.category]; done) | rfl
def fPM (p1 : Int32) (p2 : Int32) (fa : Nat → Int32) (i0 : Nat) : Int32 :=
  let jx5 : Int32 := (if (p2 - p1) = (7 : Int32) then (if (fa ((p1 + (4 : Int32))).toNatClampNeg) = (45 : Int32) then (if (digs fa 4 i0 0) < (0 : Int32) then (-1 : Int32) else (if (digs fa 2 (i0 + 5) 0) < (1 : Int32) then (-1 : Int32) else (if (12 : Int32) < (digs fa 2 (i0 + 5) 0) then (-1 : Int32) else ((((digs fa 4 i0 0) * (12 : Int32)) + (digs fa 2 (i0 + 5) 0)) - (1 : Int32))))) else (-1 : Int32)) else (-1 : Int32))
  jx5
set_option maxRecDepth 65536 in
set_option maxHeartbeats 40000000 in
theorem rm_pmo (l : Launch) (Z : State) (a0 : Array Value) (hw : ∀ d ∈ tables_1, d.before a0 Z = true) (ws : List Jvm.Cond) (r0 : Addr) (p1 : Int32) (p2 : Int32) (fa : Nat → Int32) (i0 : Nat) (h0 : Heap) (n0 : Nat) (Z0 : n0 ≤ h0.size) (Va : IA Z h0 r0 .byte 10 fa) (hp1 : p1 = Int32.ofNat i0) (hi0 : i0 ≤ 3) :
    MetFree l (⟨"com/example/floatline/floatline/io/DateText", "prolepticMonth", "([BII)I"⟩ : MethodName) (head1 (Jvm.Cond.code (⟨"com/example/floatline/floatline/io/DateText", "prolepticMonth", "([BII)I"⟩ : MethodName) prog_17_method_3_code 5 (some .int) :: ws) ({ frames := 1, cells := 0, slots := 0, locals := 17 } : Room)) (fun a U => a = #[(.ref r0), (.int p1), (.int p2)] ∧ Z.Warmed39 U.vm ∧ U.heap = h0) (fun _ _ _ _ _ => True) (fun _ U o U' => ∃ v L, o = .returned v ∧ QP (.int (fPM p1 p2 fa i0)) h0 n0 v U'.heap L ∧ FrameEnd U o U' L ({ frames := 1, cells := 0, slots := 0, locals := 17 } : Room).cells ({ frames := 1, cells := 0, slots := 0, locals := 17 } : Room).slots) := by
  refine MetFree.of_bodySF (plainFor_of_name pmo_pn) hisR ?_
  intro p e s m args below meth c s₁ Bd hml0 hP hK
  obtain ⟨rfl, hZ, hh⟩ := hP
  have hx := Bd.exec
  have hby := Bd.bytes
  have hml : c.maxLocals = 5 := hml0
  have hown : s.vm.findClass "com/example/floatline/floatline/io/DateText" = some m.cls := findClass_of_methodNamed Bd.named
  have hnm := (name_of_methodNamed Bd.named Bd.method).1
  have X0 : Stand p l e ({ frames := 1, cells := 0, slots := 0, locals := 17 } : Room) s m #[(.ref r0), (.int p1), (.int p2)] below meth c s₁ [] 0 0 := Stand.of_body Bd
  have e0 : s₁.heap = h0 := by rw [← hh, Bd.state]; rfl
  have N0 := Fr.nil n0
  obtain ⟨P0, hP0⟩ : ∃ P0 : State → Prop, P0 = fun t => Steps p.tables e below (s₁.setTop (entryFrame m #[(.ref r0), (.int p1), (.int p2)] 5)) t := ⟨_, rfl⟩
  have K0 : ∀ t, Steps p.tables e below (s₁.setTop (mkF m 0 #[.val (.ref r0), .val (.int p1), .val (.int p2), .unset, .unset] [])) t → P0 t := by
    intro t k; rw [hP0]; exact castTop (pmo_ef m r0 p1 p2) k
  have K1 : ∀ t, Steps p.tables e below (s₁.setTop (mkF m 5 #[.val (.ref r0), .val (.int p1), .val (.int p2), .unset, .unset] [(.int (7 : Int32)), (.int (p2 - p1))])) t → P0 t := by
    intro t kt
    refine K0 t ?_
    show Steps p.tables e below (s₁.setTop (mkF m 0 #[.val (.ref r0), .val (.int p1), .val (.int p2), .unset, .unset] [])) t
    refine XS.iloadN X0.here hx rfl (hb hby pmo_d0) rfl ?_
    show Steps p.tables e below (s₁.setTop (mkF m 1 #[.val (.ref r0), .val (.int p1), .val (.int p2), .unset, .unset] [(.int p2)])) t
    refine XS.iloadN X0.here hx rfl (hb hby pmo_d1) rfl ?_
    show Steps p.tables e below (s₁.setTop (mkF m 2 #[.val (.ref r0), .val (.int p1), .val (.int p2), .unset, .unset] [(.int p1), (.int p2)])) t
    refine XS.isub X0.here hx rfl (hb hby pmo_d2) rfl ?_
    show Steps p.tables e below (s₁.setTop (mkF m 3 #[.val (.ref r0), .val (.int p1), .val (.int p2), .unset, .unset] [(.int (p2 - p1))])) t
    refine XS.bipush X0.here hx rfl (hb hby pmo_d3) ?_
    exact kt
  obtain ⟨jx5, pcx5, Lx5, Sx5, T27, lc28, hjx5, X29, e30, N31, hdx5, K32⟩ : ∃ (jx5 : Int32) (pcx5 : Nat) (Lx5 : Array Slot) (Sx5 : List Value) (T27 : State) (lc28 : List Loc), jx5 = (if (p2 - p1) = (7 : Int32) then (if (fa ((p1 + (4 : Int32))).toNatClampNeg) = (45 : Int32) then (if (digs fa 4 i0 0) < (0 : Int32) then (-1 : Int32) else (if (digs fa 2 (i0 + 5) 0) < (1 : Int32) then (-1 : Int32) else (if (12 : Int32) < (digs fa 2 (i0 + 5) 0) then (-1 : Int32) else ((((digs fa 4 i0 0) * (12 : Int32)) + (digs fa 2 (i0 + 5) 0)) - (1 : Int32))))) else (-1 : Int32)) else (-1 : Int32)) ∧ Stand p l e ({ frames := 1, cells := 0, slots := 0, locals := 17 } : Room) s m #[(.ref r0), (.int p1), (.int p2)] below meth c T27 lc28 0 0 ∧ T27.heap = h0 ∧ Fr n0 lc28 ∧ decode c.code pcx5 = .ok (.ireturn, 1) ∧ ∀ t, Steps p.tables e below (T27.setTop (mkF m pcx5 Lx5 ((.int jx5) :: Sx5))) t → P0 t := by
    by_cases hc5 : (p2 - p1) = (7 : Int32)
    · have K2 : ∀ t, Steps p.tables e below (s₁.setTop (mkF m 15 #[.val (.ref r0), .val (.int p1), .val (.int p2), .unset, .unset] [(.int (45 : Int32)), (.int (fa ((p1 + (4 : Int32))).toNatClampNeg))])) t → P0 t := by
        intro t kt
        refine K1 t ?_
        show Steps p.tables e below (s₁.setTop (mkF m 5 #[.val (.ref r0), .val (.int p1), .val (.int p2), .unset, .unset] [(.int (7 : Int32)), (.int (p2 - p1))])) t
        refine XS.icmpNo X0.here hx rfl (hb hby pmo_d5) rfl (teq hc5).2 ?_
        show Steps p.tables e below (s₁.setTop (mkF m 8 #[.val (.ref r0), .val (.int p1), .val (.int p2), .unset, .unset] [])) t
        refine XS.aloadN X0.here hx rfl (hb hby pmo_d8) rfl rfl ?_
        show Steps p.tables e below (s₁.setTop (mkF m 9 #[.val (.ref r0), .val (.int p1), .val (.int p2), .unset, .unset] [(.ref r0)])) t
        refine XS.iloadN X0.here hx rfl (hb hby pmo_d9) rfl ?_
        show Steps p.tables e below (s₁.setTop (mkF m 10 #[.val (.ref r0), .val (.int p1), .val (.int p2), .unset, .unset] [(.int p1), (.ref r0)])) t
        refine XS.iconst X0.here hx rfl (hb hby pmo_d10) ?_
        show Steps p.tables e below (s₁.setTop (mkF m 11 #[.val (.ref r0), .val (.int p1), .val (.int p2), .unset, .unset] [(.int (4 : Int32)), (.int p1), (.ref r0)])) t
        refine XS.iadd X0.here hx rfl (hb hby pmo_d11) rfl ?_
        show Steps p.tables e below (s₁.setTop (mkF m 12 #[.val (.ref r0), .val (.int p1), .val (.int p2), .unset, .unset] [(.int (p1 + (4 : Int32))), (.ref r0)])) t
        refine ldBA X0 hx hZ e0 Va (j := (p1 + (4 : Int32))) (own_pin hp1 hi0 4 (by decide)) (g := (mkF m 12 #[.val (.ref r0), .val (.int p1), .val (.int p2), .unset, .unset] [(.int (p1 + (4 : Int32))), (.ref r0)])) rfl rfl (hb hby pmo_d12) _ ?_
        show Steps p.tables e below (s₁.setTop (mkF m 13 #[.val (.ref r0), .val (.int p1), .val (.int p2), .unset, .unset] [(.int (fa ((p1 + (4 : Int32))).toNatClampNeg))])) t
        refine XS.bipush X0.here hx rfl (hb hby pmo_d13) ?_
        exact kt
      obtain ⟨jx15, pcx15, Lx15, Sx15, T20, lc21, hjx15, X22, e23, N24, hdx15, K25⟩ : ∃ (jx15 : Int32) (pcx15 : Nat) (Lx15 : Array Slot) (Sx15 : List Value) (T20 : State) (lc21 : List Loc), jx15 = (if (fa ((p1 + (4 : Int32))).toNatClampNeg) = (45 : Int32) then (if (digs fa 4 i0 0) < (0 : Int32) then (-1 : Int32) else (if (digs fa 2 (i0 + 5) 0) < (1 : Int32) then (-1 : Int32) else (if (12 : Int32) < (digs fa 2 (i0 + 5) 0) then (-1 : Int32) else ((((digs fa 4 i0 0) * (12 : Int32)) + (digs fa 2 (i0 + 5) 0)) - (1 : Int32))))) else (-1 : Int32)) ∧ Stand p l e ({ frames := 1, cells := 0, slots := 0, locals := 17 } : Room) s m #[(.ref r0), (.int p1), (.int p2)] below meth c T20 lc21 0 0 ∧ T20.heap = h0 ∧ Fr n0 lc21 ∧ decode c.code pcx15 = .ok (.ireturn, 1) ∧ ∀ t, Steps p.tables e below (T20.setTop (mkF m pcx15 Lx15 ((.int jx15) :: Sx15))) t → P0 t := by
        by_cases hc15 : (fa ((p1 + (4 : Int32))).toNatClampNeg) = (45 : Int32)
        · obtain ⟨_, _, ⟨T3, L3, k3, n3⟩, -, X3, ⟨Lc3, hQ3, l3, y3, z3⟩, st3⟩ := Jvm.LawKit.callS X0 hx (y := (⟨"com/example/floatline/floatline/io/DateText", "digits", "([BII)I"⟩ : MethodName)) hown (mvT hZ (hw _ (List.mem_of_getElem? (i := 16) rfl))) (mvT hZ (hw _ (List.mem_of_getElem? (i := 17) rfl))) (mvT hZ (hw _ (List.mem_of_getElem? (i := 11) rfl))) (mvT hZ (hw _ (List.mem_of_getElem? (i := 18) rfl))) (by decide) (backOf (W := 0) (rm_dgs l Z a0 hw [] r0 p1 (p1 + (4 : Int32)) fa i0 4 h0 n0 Z0 Va hp1 (own_pl hp1 4) (by omega)) hZ (hw _ (List.mem_of_getElem? (i := 18) rfl)) (hw _ (List.mem_of_getElem? (i := 11) rfl)) (by decide) (by decide)) (g := (mkF m 25 #[.val (.ref r0), .val (.int p1), .val (.int p2), .unset, .unset] [(.int (p1 + (4 : Int32))), (.int p1), (.ref r0)])) rfl (by rw [hml]; rfl) (argsL := [(.ref r0), (.int p1), (.int (p1 + (4 : Int32)))]) (rest := []) (lenOf pmo_pd0 rfl) rfl (by show 2 * 0 + _ ≤ _; exact Nat.le_of_eq rfl) (hb hby pmo_d25) (fun _ _ => ⟨rfl, e0, (by decide : 0 + 0 ≤ _), (by decide : 0 + 0 ≤ _)⟩)
          dsimp only [Pt.U, Pt.locs, Pt.cells, Pt.slots] at X3 l3 y3 z3 st3 hQ3
          rw [l3, y3, z3] at X3
          obtain ⟨rfl, N3q, e3⟩ := hQ3
          have N3 := Fr.app N0 N3q
          have K4 : ∀ t, Steps p.tables e below (T3.setTop (mkF m 29 #[.val (.ref r0), .val (.int p1), .val (.int p2), .val (.int (digs fa 4 i0 0)), .unset] [])) t → P0 t := by
            intro t kt
            refine K2 t ?_
            show Steps p.tables e below (s₁.setTop (mkF m 15 #[.val (.ref r0), .val (.int p1), .val (.int p2), .unset, .unset] [(.int (45 : Int32)), (.int (fa ((p1 + (4 : Int32))).toNatClampNeg))])) t
            refine XS.icmpYes X0.here hx rfl (pc0 := 15) (pc' := 20) rfl (hb hby pmo_d15) rfl (teq hc15).1 (by decide) (by decide) ?_
            show Steps p.tables e below (s₁.setTop (mkF m 20 #[.val (.ref r0), .val (.int p1), .val (.int p2), .unset, .unset] [])) t
            refine XS.aloadN X0.here hx rfl (hb hby pmo_d20) rfl rfl ?_
            show Steps p.tables e below (s₁.setTop (mkF m 21 #[.val (.ref r0), .val (.int p1), .val (.int p2), .unset, .unset] [(.ref r0)])) t
            refine XS.iloadN X0.here hx rfl (hb hby pmo_d21) rfl ?_
            show Steps p.tables e below (s₁.setTop (mkF m 22 #[.val (.ref r0), .val (.int p1), .val (.int p2), .unset, .unset] [(.int p1), (.ref r0)])) t
            refine XS.iloadN X0.here hx rfl (hb hby pmo_d22) rfl ?_
            show Steps p.tables e below (s₁.setTop (mkF m 23 #[.val (.ref r0), .val (.int p1), .val (.int p2), .unset, .unset] [(.int p1), (.int p1), (.ref r0)])) t
            refine XS.iconst X0.here hx rfl (hb hby pmo_d23) ?_
            show Steps p.tables e below (s₁.setTop (mkF m 24 #[.val (.ref r0), .val (.int p1), .val (.int p2), .unset, .unset] [(.int (4 : Int32)), (.int p1), (.int p1), (.ref r0)])) t
            refine XS.iadd X0.here hx rfl (hb hby pmo_d24) rfl ?_
            show Steps p.tables e below (s₁.setTop (mkF m 25 #[.val (.ref r0), .val (.int p1), .val (.int p2), .unset, .unset] [(.int (p1 + (4 : Int32))), (.int p1), (.ref r0)])) t
            refine st3 _ ?_
            show Steps p.tables e below (T3.setTop (mkF m 28 #[.val (.ref r0), .val (.int p1), .val (.int p2), .unset, .unset] [(.int (digs fa 4 i0 0))])) t
            refine XS.istoreN X3.here hx rfl (hb hby pmo_d28) rfl (l' := #[.val (.ref r0), .val (.int p1), .val (.int p2), .val (.int (digs fa 4 i0 0)), .unset]) rfl ?_
            exact kt
          obtain ⟨v28, hv28, K5⟩ : ∃ v28 : Int32, v28 = (digs fa 4 i0 0) ∧ ∀ t, Steps p.tables e below (T3.setTop (mkF m 29 #[.val (.ref r0), .val (.int p1), .val (.int p2), .val (.int v28), .unset] [])) t → P0 t := ⟨_, rfl, K4⟩
          obtain ⟨_, _, ⟨T6, L6, k6, n6⟩, -, X6, ⟨Lc6, hQ6, l6, y6, z6⟩, st6⟩ := Jvm.LawKit.callS X3 hx (y := (⟨"com/example/floatline/floatline/io/DateText", "digits", "([BII)I"⟩ : MethodName)) hown (mvT hZ (hw _ (List.mem_of_getElem? (i := 16) rfl))) (mvT hZ (hw _ (List.mem_of_getElem? (i := 17) rfl))) (mvT hZ (hw _ (List.mem_of_getElem? (i := 11) rfl))) (mvT hZ (hw _ (List.mem_of_getElem? (i := 18) rfl))) (by decide) (backOf (W := 0) (rm_dgs l Z a0 hw [] r0 (p1 + (5 : Int32)) (p1 + (7 : Int32)) fa (i0 + 5) 2 h0 n0 Z0 Va (own_pl hp1 5) (own_pl hp1 7) (by omega)) hZ (hw _ (List.mem_of_getElem? (i := 18) rfl)) (hw _ (List.mem_of_getElem? (i := 11) rfl)) (by decide) (by decide)) (g := (mkF m 37 #[.val (.ref r0), .val (.int p1), .val (.int p2), .val (.int v28), .unset] [(.int (p1 + (7 : Int32))), (.int (p1 + (5 : Int32))), (.ref r0)])) rfl (by rw [hml]; rfl) (argsL := [(.ref r0), (.int (p1 + (5 : Int32))), (.int (p1 + (7 : Int32)))]) (rest := []) (lenOf pmo_pd0 rfl) rfl (by show 2 * 0 + _ ≤ _; exact Nat.le_of_eq rfl) (hb hby pmo_d37) (fun _ _ => ⟨rfl, e3, (by decide : 0 + 0 ≤ _), (by decide : 0 + 0 ≤ _)⟩)
          dsimp only [Pt.U, Pt.locs, Pt.cells, Pt.slots] at X6 l6 y6 z6 st6 hQ6
          rw [l6, y6, z6] at X6
          obtain ⟨rfl, N6q, e6⟩ := hQ6
          have N6 := Fr.app N3 N6q
          have K7 : ∀ t, Steps p.tables e below (T6.setTop (mkF m 42 #[.val (.ref r0), .val (.int p1), .val (.int p2), .val (.int v28), .val (.int (digs fa 2 (i0 + 5) 0))] [])) t → P0 t := by
            intro t kt
            refine K5 t ?_
            show Steps p.tables e below (T3.setTop (mkF m 29 #[.val (.ref r0), .val (.int p1), .val (.int p2), .val (.int v28), .unset] [])) t
            refine XS.aloadN X3.here hx rfl (hb hby pmo_d29) rfl rfl ?_
            show Steps p.tables e below (T3.setTop (mkF m 30 #[.val (.ref r0), .val (.int p1), .val (.int p2), .val (.int v28), .unset] [(.ref r0)])) t
            refine XS.iloadN X3.here hx rfl (hb hby pmo_d30) rfl ?_
            show Steps p.tables e below (T3.setTop (mkF m 31 #[.val (.ref r0), .val (.int p1), .val (.int p2), .val (.int v28), .unset] [(.int p1), (.ref r0)])) t
            refine XS.iconst X3.here hx rfl (hb hby pmo_d31) ?_
            show Steps p.tables e below (T3.setTop (mkF m 32 #[.val (.ref r0), .val (.int p1), .val (.int p2), .val (.int v28), .unset] [(.int (5 : Int32)), (.int p1), (.ref r0)])) t
            refine XS.iadd X3.here hx rfl (hb hby pmo_d32) rfl ?_
            show Steps p.tables e below (T3.setTop (mkF m 33 #[.val (.ref r0), .val (.int p1), .val (.int p2), .val (.int v28), .unset] [(.int (p1 + (5 : Int32))), (.ref r0)])) t
            refine XS.iloadN X3.here hx rfl (hb hby pmo_d33) rfl ?_
            show Steps p.tables e below (T3.setTop (mkF m 34 #[.val (.ref r0), .val (.int p1), .val (.int p2), .val (.int v28), .unset] [(.int p1), (.int (p1 + (5 : Int32))), (.ref r0)])) t
            refine XS.bipush X3.here hx rfl (hb hby pmo_d34) ?_
            show Steps p.tables e below (T3.setTop (mkF m 36 #[.val (.ref r0), .val (.int p1), .val (.int p2), .val (.int v28), .unset] [(.int (7 : Int32)), (.int p1), (.int (p1 + (5 : Int32))), (.ref r0)])) t
            refine XS.iadd X3.here hx rfl (hb hby pmo_d36) rfl ?_
            show Steps p.tables e below (T3.setTop (mkF m 37 #[.val (.ref r0), .val (.int p1), .val (.int p2), .val (.int v28), .unset] [(.int (p1 + (7 : Int32))), (.int (p1 + (5 : Int32))), (.ref r0)])) t
            refine st6 _ ?_
            show Steps p.tables e below (T6.setTop (mkF m 40 #[.val (.ref r0), .val (.int p1), .val (.int p2), .val (.int v28), .unset] [(.int (digs fa 2 (i0 + 5) 0))])) t
            refine XS.istore X6.here hx rfl (hb hby pmo_d40) rfl (l' := #[.val (.ref r0), .val (.int p1), .val (.int p2), .val (.int v28), .val (.int (digs fa 2 (i0 + 5) 0))]) rfl ?_
            exact kt
          obtain ⟨v40, hv40, K8⟩ : ∃ v40 : Int32, v40 = (digs fa 2 (i0 + 5) 0) ∧ ∀ t, Steps p.tables e below (T6.setTop (mkF m 42 #[.val (.ref r0), .val (.int p1), .val (.int p2), .val (.int v28), .val (.int v40)] [])) t → P0 t := ⟨_, rfl, K7⟩
          have K9 : ∀ t, Steps p.tables e below (T6.setTop (mkF m 43 #[.val (.ref r0), .val (.int p1), .val (.int p2), .val (.int v28), .val (.int v40)] [(.int v28)])) t → P0 t := by
            intro t kt
            refine K8 t ?_
            show Steps p.tables e below (T6.setTop (mkF m 42 #[.val (.ref r0), .val (.int p1), .val (.int p2), .val (.int v28), .val (.int v40)] [])) t
            refine XS.iloadN X6.here hx rfl (hb hby pmo_d42) rfl ?_
            exact kt
          obtain ⟨j72_s0_2, hj72_s0_2, K18⟩ : ∃ (j72_s0_2 : Int32), j72_s0_2 = (if v28 < (0 : Int32) then (-1 : Int32) else (if v40 < (1 : Int32) then (-1 : Int32) else (if (12 : Int32) < v40 then (-1 : Int32) else (((v28 * (12 : Int32)) + v40) - (1 : Int32))))) ∧ ∀ t, Steps p.tables e below (T6.setTop (mkF m 72 #[.val (.ref r0), .val (.int p1), .val (.int p2), .val (.int v28), .val (.int v40)] [(.int j72_s0_2)])) t → P0 t := by
            by_cases hc43 : v28 < (0 : Int32)
            · have K10 : ∀ t, Steps p.tables e below (T6.setTop (mkF m 72 #[.val (.ref r0), .val (.int p1), .val (.int p2), .val (.int v28), .val (.int v40)] [(.int (-1 : Int32))])) t → P0 t := by
                intro t kt
                refine K9 t ?_
                show Steps p.tables e below (T6.setTop (mkF m 43 #[.val (.ref r0), .val (.int p1), .val (.int p2), .val (.int v28), .val (.int v40)] [(.int v28)])) t
                refine XS.ifYes X6.here hx rfl (pc0 := 43) (pc' := 71) rfl (hb hby pmo_d43) rfl ((if0 _ _).trans (tlt hc43).1) (by decide) (by decide) ?_
                show Steps p.tables e below (T6.setTop (mkF m 71 #[.val (.ref r0), .val (.int p1), .val (.int p2), .val (.int v28), .val (.int v40)] [])) t
                refine XS.iconst X6.here hx rfl (hb hby pmo_d71) ?_
                exact kt
              exact ⟨_, (if_pos hc43).symm, K10⟩
            · have K11 : ∀ t, Steps p.tables e below (T6.setTop (mkF m 49 #[.val (.ref r0), .val (.int p1), .val (.int p2), .val (.int v28), .val (.int v40)] [(.int (1 : Int32)), (.int v40)])) t → P0 t := by
                intro t kt
                refine K9 t ?_
                show Steps p.tables e below (T6.setTop (mkF m 43 #[.val (.ref r0), .val (.int p1), .val (.int p2), .val (.int v28), .val (.int v40)] [(.int v28)])) t
                refine XS.ifNo X6.here hx rfl (hb hby pmo_d43) rfl ((if0 _ _).trans (flt hc43).1) ?_
                show Steps p.tables e below (T6.setTop (mkF m 46 #[.val (.ref r0), .val (.int p1), .val (.int p2), .val (.int v28), .val (.int v40)] [])) t
                refine XS.iload X6.here hx rfl (hb hby pmo_d46) rfl ?_
                show Steps p.tables e below (T6.setTop (mkF m 48 #[.val (.ref r0), .val (.int p1), .val (.int p2), .val (.int v28), .val (.int v40)] [(.int v40)])) t
                refine XS.iconst X6.here hx rfl (hb hby pmo_d48) ?_
                exact kt
              obtain ⟨j72_s0_1, hj72_s0_1, K17⟩ : ∃ (j72_s0_1 : Int32), j72_s0_1 = (if v40 < (1 : Int32) then (-1 : Int32) else (if (12 : Int32) < v40 then (-1 : Int32) else (((v28 * (12 : Int32)) + v40) - (1 : Int32)))) ∧ ∀ t, Steps p.tables e below (T6.setTop (mkF m 72 #[.val (.ref r0), .val (.int p1), .val (.int p2), .val (.int v28), .val (.int v40)] [(.int j72_s0_1)])) t → P0 t := by
                by_cases hc49 : v40 < (1 : Int32)
                · have K12 : ∀ t, Steps p.tables e below (T6.setTop (mkF m 72 #[.val (.ref r0), .val (.int p1), .val (.int p2), .val (.int v28), .val (.int v40)] [(.int (-1 : Int32))])) t → P0 t := by
                    intro t kt
                    refine K11 t ?_
                    show Steps p.tables e below (T6.setTop (mkF m 49 #[.val (.ref r0), .val (.int p1), .val (.int p2), .val (.int v28), .val (.int v40)] [(.int (1 : Int32)), (.int v40)])) t
                    refine XS.icmpYes X6.here hx rfl (pc0 := 49) (pc' := 71) rfl (hb hby pmo_d49) rfl (tlt hc49).1 (by decide) (by decide) ?_
                    show Steps p.tables e below (T6.setTop (mkF m 71 #[.val (.ref r0), .val (.int p1), .val (.int p2), .val (.int v28), .val (.int v40)] [])) t
                    refine XS.iconst X6.here hx rfl (hb hby pmo_d71) ?_
                    exact kt
                  exact ⟨_, (if_pos hc49).symm, K12⟩
                · have K13 : ∀ t, Steps p.tables e below (T6.setTop (mkF m 56 #[.val (.ref r0), .val (.int p1), .val (.int p2), .val (.int v28), .val (.int v40)] [(.int (12 : Int32)), (.int v40)])) t → P0 t := by
                    intro t kt
                    refine K11 t ?_
                    show Steps p.tables e below (T6.setTop (mkF m 49 #[.val (.ref r0), .val (.int p1), .val (.int p2), .val (.int v28), .val (.int v40)] [(.int (1 : Int32)), (.int v40)])) t
                    refine XS.icmpNo X6.here hx rfl (hb hby pmo_d49) rfl (flt hc49).1 ?_
                    show Steps p.tables e below (T6.setTop (mkF m 52 #[.val (.ref r0), .val (.int p1), .val (.int p2), .val (.int v28), .val (.int v40)] [])) t
                    refine XS.iload X6.here hx rfl (hb hby pmo_d52) rfl ?_
                    show Steps p.tables e below (T6.setTop (mkF m 54 #[.val (.ref r0), .val (.int p1), .val (.int p2), .val (.int v28), .val (.int v40)] [(.int v40)])) t
                    refine XS.bipush X6.here hx rfl (hb hby pmo_d54) ?_
                    exact kt
                  obtain ⟨j72_s0, hj72_s0, K16⟩ : ∃ (j72_s0 : Int32), j72_s0 = (if (12 : Int32) < v40 then (-1 : Int32) else (((v28 * (12 : Int32)) + v40) - (1 : Int32))) ∧ ∀ t, Steps p.tables e below (T6.setTop (mkF m 72 #[.val (.ref r0), .val (.int p1), .val (.int p2), .val (.int v28), .val (.int v40)] [(.int j72_s0)])) t → P0 t := by
                    by_cases hc56 : (12 : Int32) < v40
                    · have K14 : ∀ t, Steps p.tables e below (T6.setTop (mkF m 72 #[.val (.ref r0), .val (.int p1), .val (.int p2), .val (.int v28), .val (.int v40)] [(.int (-1 : Int32))])) t → P0 t := by
                        intro t kt
                        refine K13 t ?_
                        show Steps p.tables e below (T6.setTop (mkF m 56 #[.val (.ref r0), .val (.int p1), .val (.int p2), .val (.int v28), .val (.int v40)] [(.int (12 : Int32)), (.int v40)])) t
                        refine XS.icmpYes X6.here hx rfl (pc0 := 56) (pc' := 71) rfl (hb hby pmo_d56) rfl (tlt hc56).2.2.1 (by decide) (by decide) ?_
                        show Steps p.tables e below (T6.setTop (mkF m 71 #[.val (.ref r0), .val (.int p1), .val (.int p2), .val (.int v28), .val (.int v40)] [])) t
                        refine XS.iconst X6.here hx rfl (hb hby pmo_d71) ?_
                        exact kt
                      exact ⟨_, (if_pos hc56).symm, K14⟩
                    · have K15 : ∀ t, Steps p.tables e below (T6.setTop (mkF m 72 #[.val (.ref r0), .val (.int p1), .val (.int p2), .val (.int v28), .val (.int v40)] [(.int (((v28 * (12 : Int32)) + v40) - (1 : Int32)))])) t → P0 t := by
                        intro t kt
                        refine K13 t ?_
                        show Steps p.tables e below (T6.setTop (mkF m 56 #[.val (.ref r0), .val (.int p1), .val (.int p2), .val (.int v28), .val (.int v40)] [(.int (12 : Int32)), (.int v40)])) t
                        refine XS.icmpNo X6.here hx rfl (hb hby pmo_d56) rfl (flt hc56).2.2.1 ?_
                        show Steps p.tables e below (T6.setTop (mkF m 59 #[.val (.ref r0), .val (.int p1), .val (.int p2), .val (.int v28), .val (.int v40)] [])) t
                        refine XS.iloadN X6.here hx rfl (hb hby pmo_d59) rfl ?_
                        show Steps p.tables e below (T6.setTop (mkF m 60 #[.val (.ref r0), .val (.int p1), .val (.int p2), .val (.int v28), .val (.int v40)] [(.int v28)])) t
                        refine XS.bipush X6.here hx rfl (hb hby pmo_d60) ?_
                        show Steps p.tables e below (T6.setTop (mkF m 62 #[.val (.ref r0), .val (.int p1), .val (.int p2), .val (.int v28), .val (.int v40)] [(.int (12 : Int32)), (.int v28)])) t
                        refine XS.imul X6.here hx rfl (hb hby pmo_d62) rfl ?_
                        show Steps p.tables e below (T6.setTop (mkF m 63 #[.val (.ref r0), .val (.int p1), .val (.int p2), .val (.int v28), .val (.int v40)] [(.int (v28 * (12 : Int32)))])) t
                        refine XS.iload X6.here hx rfl (hb hby pmo_d63) rfl ?_
                        show Steps p.tables e below (T6.setTop (mkF m 65 #[.val (.ref r0), .val (.int p1), .val (.int p2), .val (.int v28), .val (.int v40)] [(.int v40), (.int (v28 * (12 : Int32)))])) t
                        refine XS.iadd X6.here hx rfl (hb hby pmo_d65) rfl ?_
                        show Steps p.tables e below (T6.setTop (mkF m 66 #[.val (.ref r0), .val (.int p1), .val (.int p2), .val (.int v28), .val (.int v40)] [(.int ((v28 * (12 : Int32)) + v40))])) t
                        refine XS.iconst X6.here hx rfl (hb hby pmo_d66) ?_
                        show Steps p.tables e below (T6.setTop (mkF m 67 #[.val (.ref r0), .val (.int p1), .val (.int p2), .val (.int v28), .val (.int v40)] [(.int (1 : Int32)), (.int ((v28 * (12 : Int32)) + v40))])) t
                        refine XS.isub X6.here hx rfl (hb hby pmo_d67) rfl ?_
                        show Steps p.tables e below (T6.setTop (mkF m 68 #[.val (.ref r0), .val (.int p1), .val (.int p2), .val (.int v28), .val (.int v40)] [(.int (((v28 * (12 : Int32)) + v40) - (1 : Int32)))])) t
                        refine XS.goto X6.here hx rfl (pc0 := 68) (pc' := 72) rfl (hb hby pmo_d68) (by decide) (by decide) ?_
                        exact kt
                      exact ⟨_, (if_neg hc56).symm, K15⟩
                  subst hj72_s0
                  exact ⟨_, (if_neg hc49).symm, K16⟩
              subst hj72_s0_1
              exact ⟨_, (if_neg hc43).symm, K17⟩
          subst hv28
          subst hv40
          subst hj72_s0_2
          exact ⟨_, _, _, _, _, _, (if_pos hc15).symm, X6, e6, N6, (hb hby pmo_d72), K18⟩
        · have K19 : ∀ t, Steps p.tables e below (s₁.setTop (mkF m 19 #[.val (.ref r0), .val (.int p1), .val (.int p2), .unset, .unset] [(.int (-1 : Int32))])) t → P0 t := by
            intro t kt
            refine K2 t ?_
            show Steps p.tables e below (s₁.setTop (mkF m 15 #[.val (.ref r0), .val (.int p1), .val (.int p2), .unset, .unset] [(.int (45 : Int32)), (.int (fa ((p1 + (4 : Int32))).toNatClampNeg))])) t
            refine XS.icmpNo X0.here hx rfl (hb hby pmo_d15) rfl (feq hc15).1 ?_
            show Steps p.tables e below (s₁.setTop (mkF m 18 #[.val (.ref r0), .val (.int p1), .val (.int p2), .unset, .unset] [])) t
            refine XS.iconst X0.here hx rfl (hb hby pmo_d18) ?_
            exact kt
          exact ⟨_, _, _, _, _, _, (if_neg hc15).symm, X0, e0, N0, (hb hby pmo_d19), K19⟩
      subst hjx15
      exact ⟨_, _, _, _, _, _, (if_pos hc5).symm, X22, e23, N24, hdx15, K25⟩
    · have K26 : ∀ t, Steps p.tables e below (s₁.setTop (mkF m 19 #[.val (.ref r0), .val (.int p1), .val (.int p2), .unset, .unset] [(.int (-1 : Int32))])) t → P0 t := by
        intro t kt
        refine K1 t ?_
        show Steps p.tables e below (s₁.setTop (mkF m 5 #[.val (.ref r0), .val (.int p1), .val (.int p2), .unset, .unset] [(.int (7 : Int32)), (.int (p2 - p1))])) t
        refine XS.icmpYes X0.here hx rfl (pc0 := 5) (pc' := 18) rfl (hb hby pmo_d5) rfl (feq hc5).2 (by decide) (by decide) ?_
        show Steps p.tables e below (s₁.setTop (mkF m 18 #[.val (.ref r0), .val (.int p1), .val (.int p2), .unset, .unset] [])) t
        refine XS.iconst X0.here hx rfl (hb hby pmo_d18) ?_
        exact kt
      exact ⟨_, _, _, _, _, _, (if_neg hc5).symm, X0, e0, N0, (hb hby pmo_d19), K26⟩
  obtain ⟨fs, hr, hrun, hended, hW, hsame⟩ := X29.leave (v := some (.int jx5)) (fun h => by rw [Bd.returns] at h; cases h)
  refine ⟨_, _, ?_, hrun, hended, _, _, rfl, ?_, ⟨_, rfl⟩, hW, hsame.mono (by decide) (by decide)⟩
  · skip
    have q := K32 _ (retI X29 hx Bd.returns hdx5 hr)
    rw [hP0] at q; exact q
  · show QP (.int (fPM p1 p2 fa i0)) h0 n0 _ T27.heap _
    rw [e30]
    subst hjx5
    exact ⟨rfl, N31, rfl⟩
theorem own_nb (x : Int32) : nar .byte (nar .byte x) = nar .byte x := by simp [nar]
theorem own_rngb (x : Int32) : -128 ≤ (nar .byte x).toInt ∧ (nar .byte x).toInt ≤ 127 := by
  have := c_i2b x
  show -128 ≤ x.toInt8.toInt32.toInt ∧ x.toInt8.toInt32.toInt ≤ 127
  omega
theorem own_updr {f : Nat → Int32} (h : ∀ j, -128 ≤ (f j).toInt ∧ (f j).toInt ≤ 127) (i : Nat) (x : Int32) : ∀ j, -128 ≤ (upd f i (nar .byte x) j).toInt ∧ (upd f i (nar .byte x) j).toInt ≤ 127 := by
  intro j; unfold upd; split
  · exact own_rngb x
  · exact h j
theorem own_dg (b : Int32) (hb : -128 ≤ b.toInt ∧ b.toInt ≤ 127) :
    (fDig b < 0 ∧ ∀ f k i r, f i = b → digs f (k + 1) i r = -1) ∨
    (¬ fDig b < 0 ∧ fDig b = b - 48 ∧ 0 ≤ (b - 48).toInt ∧ (b - 48).toInt ≤ 9 ∧ ∀ f k i r, f i = b → digs f (k + 1) i r = digs f k (i + 1) (r * 10 + (b - 48))) := by
  have s := c_isub b 48; have r := rng32 (b - 48)
  have e48 : (48 : Int32).toInt = 48 := by decide
  have e57 : (57 : Int32).toInt = 57 := by decide
  have e9 : (9 : Int32).toInt = 9 := by decide
  have e0 : (0 : Int32).toInt = 0 := by decide
  rw [e48] at s
  have sb : (b - 48).toInt = b.toInt - 48 := by omega
  by_cases c1 : b.toInt < 48
  · left
    have h1 : b < 48 := by rw [Int32.lt_iff_toInt_lt, e48]; exact c1
    have h2 : (b - 48) < 0 := by rw [Int32.lt_iff_toInt_lt, e0]; omega
    refine ⟨?_, fun f k i r hf => ?_⟩
    · simp only [fDig]; rw [if_pos h1]; decide
    · exact if_pos (by rw [hf]; exact h2)
  · have h1 : ¬ b < 48 := by rw [Int32.lt_iff_toInt_lt, e48]; exact c1
    have h2 : ¬ (b - 48) < 0 := by rw [Int32.lt_iff_toInt_lt, e0]; omega
    by_cases c2 : 57 < b.toInt
    · left
      have h3 : 57 < b := by rw [Int32.lt_iff_toInt_lt, e57]; exact c2
      have h4 : 9 < (b - 48) := by rw [Int32.lt_iff_toInt_lt, e9]; omega
      refine ⟨?_, fun f k i r hf => ?_⟩
      · simp only [fDig]; rw [if_neg h1, if_pos h3]; decide
      · exact (if_neg (by rw [hf]; exact h2)).trans (if_pos (by rw [hf]; exact h4))
    · right
      have h3 : ¬ 57 < b := by rw [Int32.lt_iff_toInt_lt, e57]; exact c2
      have h4 : ¬ 9 < (b - 48) := by rw [Int32.lt_iff_toInt_lt, e9]; omega
      have ed : fDig b = b - 48 := by simp only [fDig]; rw [if_neg h1, if_neg h3]
      refine ⟨by rw [ed]; exact h2, ed, by omega, by omega, fun f k i r hf => ?_⟩
      rw [← hf]
      exact (if_neg (by rw [hf]; exact h2)).trans (if_neg (by rw [hf]; exact h4))
theorem own_mac (r d : Int32) (R : Int) (h0 : 0 ≤ r.toInt) (h1 : r.toInt ≤ R) (hR : R ≤ 100000) (d0 : 0 ≤ d.toInt) (d9 : d.toInt ≤ 9) : 0 ≤ (r * 10 + d).toInt ∧ (r * 10 + d).toInt ≤ R * 10 + 9 := by
  have a := c_imul r 10; have b := c_iadd (r * 10) d; have q := rng32 (r * 10); have q2 := rng32 (r * 10 + d)
  have e : (10 : Int32).toInt = 10 := by decide
  rw [e] at a
  have a2 : (r * 10).toInt = r.toInt * 10 := by omega
  have b2 : (r * 10 + d).toInt = r.toInt * 10 + d.toInt := by omega
  omega
theorem own_plain (q0 : Int64) (p1 : Int32) (p2 : Int32) (p3 : Int32) (f2 : Nat → Int32) (f16 : Nat → Int32) (f27 : Nat → Int32) (f38 : Nat → Int32) (f49 : Nat → Int32) (f60 : Nat → Int32) (f71 : Nat → Int32) (f84 : Nat → Int32) (f97 : Nat → Int32) (f110 : Nat → Int32) (f123 : Nat → Int32) (v128 : Int32) (v143 : Int32) (a : Nat) (v150 : Int32) (j329_9_9 : Int32) (j348_s0 : Int32)
    (hf2 : f2 = (fun _ => (0 : Int32)))
    (hf16 : f16 = (upd f2 ((0 : Int32)).toNatClampNeg (nar .byte (fPick q0 p1 p2 (0 : Int32)))))
    (hf27 : f27 = (upd f16 ((1 : Int32)).toNatClampNeg (nar .byte (fPick q0 p1 p2 (1 : Int32)))))
    (hf38 : f38 = (upd f27 ((2 : Int32)).toNatClampNeg (nar .byte (fPick q0 p1 p2 (2 : Int32)))))
    (hf49 : f49 = (upd f38 ((3 : Int32)).toNatClampNeg (nar .byte (fPick q0 p1 p2 (3 : Int32)))))
    (hf60 : f60 = (upd f49 ((4 : Int32)).toNatClampNeg (nar .byte (fPick q0 p1 p2 (4 : Int32)))))
    (hf71 : f71 = (upd f60 ((5 : Int32)).toNatClampNeg (nar .byte (fPick q0 p1 p2 (5 : Int32)))))
    (hf84 : f84 = (upd f71 ((6 : Int32)).toNatClampNeg (nar .byte (fPick q0 p1 p2 (6 : Int32)))))
    (hf97 : f97 = (upd f84 ((7 : Int32)).toNatClampNeg (nar .byte (fPick q0 p1 p2 (7 : Int32)))))
    (hf110 : f110 = (upd f97 ((8 : Int32)).toNatClampNeg (nar .byte (fPick q0 p1 p2 (8 : Int32)))))
    (hf123 : f123 = (upd f110 ((9 : Int32)).toNatClampNeg (nar .byte (fPick q0 p1 p2 (9 : Int32)))))
    (hv128 : v128 = (p3 &&& (3 : Int32)))
    (hv143 : v143 = ((((p3.toUInt32 >>> ((2 : Int32) &&& 31).toUInt32).toInt32) &&& (65535 : Int32)) % ((11 : Int32) - v128)))
    (ha : v128 = Int32.ofNat a)
    (ha3 : a ≤ 3)
    (hv150 : v150 = (v128 + v143))
    (hj329_9_9 : j329_9_9 = (if v143 = (7 : Int32) then (if (f123 ((v128 + (4 : Int32))).toNatClampNeg) = (45 : Int32) then (if (fDig (f123 (v128).toNatClampNeg)) < (0 : Int32) then (-1 : Int32) else (if (fDig (f123 ((v128 + (1 : Int32))).toNatClampNeg)) < (0 : Int32) then (-1 : Int32) else (if (fDig (f123 ((v128 + (2 : Int32))).toNatClampNeg)) < (0 : Int32) then (-1 : Int32) else (if (fDig (f123 ((v128 + (3 : Int32))).toNatClampNeg)) < (0 : Int32) then (-1 : Int32) else (if (fDig (f123 ((v128 + (5 : Int32))).toNatClampNeg)) < (0 : Int32) then (-1 : Int32) else (if (fDig (f123 ((v128 + (6 : Int32))).toNatClampNeg)) < (0 : Int32) then (-1 : Int32) else (if (((fDig (f123 ((v128 + (5 : Int32))).toNatClampNeg)) * (10 : Int32)) + (fDig (f123 ((v128 + (6 : Int32))).toNatClampNeg))) < (1 : Int32) then (-1 : Int32) else (if (12 : Int32) < (((fDig (f123 ((v128 + (5 : Int32))).toNatClampNeg)) * (10 : Int32)) + (fDig (f123 ((v128 + (6 : Int32))).toNatClampNeg))) then (-1 : Int32) else ((((((((fDig (f123 (v128).toNatClampNeg)) * (1000 : Int32)) + ((fDig (f123 ((v128 + (1 : Int32))).toNatClampNeg)) * (100 : Int32))) + ((fDig (f123 ((v128 + (2 : Int32))).toNatClampNeg)) * (10 : Int32))) + (fDig (f123 ((v128 + (3 : Int32))).toNatClampNeg))) * (12 : Int32)) + (((fDig (f123 ((v128 + (5 : Int32))).toNatClampNeg)) * (10 : Int32)) + (fDig (f123 ((v128 + (6 : Int32))).toNatClampNeg)))) - (1 : Int32)))))))))) else (-1 : Int32)) else (-1 : Int32)))
    (hj348_s0 : j348_s0 = (if (fPM v128 v150 f123 a) = j329_9_9 then (1 : Int32) else (0 : Int32))) :
    j348_s0 = 1 := by
  have z0 : ∀ j, -128 ≤ (f2 j).toInt ∧ (f2 j).toInt ≤ 127 := by intro j; rw [hf2]; show -128 ≤ (0 : Int32).toInt ∧ (0 : Int32).toInt ≤ 127; decide
  have z1 : ∀ j, -128 ≤ (f16 j).toInt ∧ (f16 j).toInt ≤ 127 := by rw [hf16]; exact own_updr z0 _ _
  have z2 : ∀ j, -128 ≤ (f27 j).toInt ∧ (f27 j).toInt ≤ 127 := by rw [hf27]; exact own_updr z1 _ _
  have z3 : ∀ j, -128 ≤ (f38 j).toInt ∧ (f38 j).toInt ≤ 127 := by rw [hf38]; exact own_updr z2 _ _
  have z4 : ∀ j, -128 ≤ (f49 j).toInt ∧ (f49 j).toInt ≤ 127 := by rw [hf49]; exact own_updr z3 _ _
  have z5 : ∀ j, -128 ≤ (f60 j).toInt ∧ (f60 j).toInt ≤ 127 := by rw [hf60]; exact own_updr z4 _ _
  have z6 : ∀ j, -128 ≤ (f71 j).toInt ∧ (f71 j).toInt ≤ 127 := by rw [hf71]; exact own_updr z5 _ _
  have z7 : ∀ j, -128 ≤ (f84 j).toInt ∧ (f84 j).toInt ≤ 127 := by rw [hf84]; exact own_updr z6 _ _
  have z8 : ∀ j, -128 ≤ (f97 j).toInt ∧ (f97 j).toInt ≤ 127 := by rw [hf97]; exact own_updr z7 _ _
  have z9 : ∀ j, -128 ≤ (f110 j).toInt ∧ (f110 j).toInt ≤ 127 := by rw [hf110]; exact own_updr z8 _ _
  have z : ∀ j, -128 ≤ (f123 j).toInt ∧ (f123 j).toInt ≤ 127 := by rw [hf123]; exact own_updr z9 _ _
  clear hf2 hf16 hf27 hf38 hf49 hf60 hf71 hf84 hf97 hf110 hf123 z0 z1 z2 z3 z4 z5 z6 z7 z8 z9
  have n0 : v128.toNatClampNeg = a := by rw [ha]; exact own_ofNat_nat (by omega)
  have n1 : (v128 + (1 : Int32)).toNatClampNeg = a + 1 := by rw [show v128 + (1 : Int32) = Int32.ofNat (a + 1) from own_pl ha 1]; exact own_ofNat_nat (by omega)
  have n2 : (v128 + (2 : Int32)).toNatClampNeg = a + 2 := by rw [show v128 + (2 : Int32) = Int32.ofNat (a + 2) from own_pl ha 2]; exact own_ofNat_nat (by omega)
  have n3 : (v128 + (3 : Int32)).toNatClampNeg = a + 3 := by rw [show v128 + (3 : Int32) = Int32.ofNat (a + 3) from own_pl ha 3]; exact own_ofNat_nat (by omega)
  have n4 : (v128 + (4 : Int32)).toNatClampNeg = a + 4 := by rw [show v128 + (4 : Int32) = Int32.ofNat (a + 4) from own_pl ha 4]; exact own_ofNat_nat (by omega)
  have n5 : (v128 + (5 : Int32)).toNatClampNeg = a + 5 := by rw [show v128 + (5 : Int32) = Int32.ofNat (a + 5) from own_pl ha 5]; exact own_ofNat_nat (by omega)
  have n6 : (v128 + (6 : Int32)).toNatClampNeg = a + 6 := by rw [show v128 + (6 : Int32) = Int32.ofNat (a + 6) from own_pl ha 6]; exact own_ofNat_nat (by omega)
  rw [n0, n1, n2, n3, n4, n5, n6] at hj329_9_9
  rw [hj348_s0, if_pos]
  rw [hj329_9_9]
  simp only [fPM]
  rw [n4]
  have e7 : (v150 - v128) = v143 := by rw [hv150]; grind
  rw [e7]
  by_cases c7 : v143 = (7 : Int32)
  · rw [if_pos c7, if_pos c7]
    by_cases c45 : f123 (a + 4) = (45 : Int32)
    · rw [if_pos c45, if_pos c45]
      have m1 : (-1 : Int32) < (0 : Int32) := by decide
      have m2 : (-1 : Int32) < (1 : Int32) := by decide
      rcases own_dg (f123 a) (z a) with ⟨p0, q0'⟩ | ⟨p0, d0, l0, u0, q0'⟩
      · rw [if_pos p0, q0' f123 3 a 0 rfl, if_pos m1]
      · rw [if_neg p0, q0' f123 3 a 0 rfl, d0]
        rcases own_dg (f123 (a + 1)) (z (a + 1)) with ⟨p1, q1⟩ | ⟨p1, d1, l1, u1, q1⟩
        · rw [if_pos p1, q1 f123 2 (a + 1) _ rfl, if_pos m1]
        · rw [if_neg p1, q1 f123 2 (a + 1) _ rfl, d1]
          rcases own_dg (f123 (a + 2)) (z (a + 2)) with ⟨p2, q2⟩ | ⟨p2, d2, l2, u2, q2⟩
          · rw [if_pos p2, q2 f123 1 (a + 1 + 1) _ rfl, if_pos m1]
          · rw [if_neg p2, q2 f123 1 (a + 1 + 1) _ rfl, d2]
            rcases own_dg (f123 (a + 3)) (z (a + 3)) with ⟨p3, q3⟩ | ⟨p3, d3, l3, u3, q3⟩
            · rw [if_pos p3, q3 f123 0 (a + 1 + 1 + 1) _ rfl, if_pos m1]
            · rw [if_neg p3, q3 f123 0 (a + 1 + 1 + 1) _ rfl, d3]
              generalize f123 a - 48 = y0 at *
              generalize f123 (a + 1) - 48 = y1 at *
              generalize f123 (a + 2) - 48 = y2 at *
              generalize f123 (a + 3) - 48 = y3 at *
              have eR : digs f123 0 (a + 1 + 1 + 1 + 1) ((((0 * 10 + y0) * 10 + y1) * 10 + y2) * 10 + y3) = (((0 * 10 + y0) * 10 + y1) * 10 + y2) * 10 + y3 := rfl
              rw [eR]
              have k0 := own_mac 0 y0 0 (by decide) (by decide) (by decide) l0 u0
              have k1 := own_mac (0 * 10 + y0) y1 9 k0.1 k0.2 (by decide) l1 u1
              have k2 := own_mac ((0 * 10 + y0) * 10 + y1) y2 99 k1.1 k1.2 (by decide) l2 u2
              have k3 := own_mac (((0 * 10 + y0) * 10 + y1) * 10 + y2) y3 999 k2.1 k2.2 (by decide) l3 u3
              have nR : ¬ ((((0 * 10 + y0) * 10 + y1) * 10 + y2) * 10 + y3) < (0 : Int32) := by
                have e0 : (0 : Int32).toInt = 0 := by decide
                rw [Int32.lt_iff_toInt_lt, e0]; omega
              rw [if_neg nR]
              rcases own_dg (f123 (a + 5)) (z (a + 5)) with ⟨p5, q5⟩ | ⟨p5, d5, l5, u5, q5⟩
              · rw [if_pos p5, q5 f123 1 (a + 5) _ rfl, if_pos m2]
              · rw [if_neg p5, q5 f123 1 (a + 5) _ rfl, d5]
                rcases own_dg (f123 (a + 6)) (z (a + 6)) with ⟨p6, q6⟩ | ⟨p6, d6, l6, u6, q6⟩
                · rw [if_pos p6, q6 f123 0 (a + 5 + 1) _ rfl, if_pos m2]
                · rw [if_neg p6, q6 f123 0 (a + 5 + 1) _ rfl, d6]
                  generalize f123 (a + 5) - 48 = y5 at *
                  generalize f123 (a + 6) - 48 = y6 at *
                  have eM : digs f123 0 (a + 5 + 1 + 1) ((0 * 10 + y5) * 10 + y6) = y5 * 10 + y6 := by
                    show (0 * 10 + y5) * 10 + y6 = _
                    grind
                  rw [eM]
                  have eF : (((0 * 10 + y0) * 10 + y1) * 10 + y2) * 10 + y3 = y0 * 1000 + y1 * 100 + y2 * 10 + y3 := by grind
                  rw [eF]
    · rw [if_neg c45, if_neg c45]
  · rw [if_neg c7, if_neg c7]
theorem law_pn : plainName "com/example/floatline/floatline/io/DateTextProlepticMonthPinLaw" = true := by first | (simp [plainName, overriddenIn]; done) | decide +kernel
theorem law_pd0 : parseMethodDescriptor "(JIII)B" = some ⟨[.long, .int, .int, .int], some .byte⟩ := by decide +kernel
theorem law_pd1 : parseMethodDescriptor "(B)I" = some ⟨[.byte], some .int⟩ := by decide +kernel
theorem law_pd2 : parseMethodDescriptor "([BII)I" = some ⟨[(.array .byte), .int, .int], some .int⟩ := by decide +kernel
theorem law_ef (m : MethodId) (x0 : Int64) (x1 : Int32) (x2 : Int32) (x3 : Int32) : entryFrame m #[(.long x0), (.int x1), (.int x2), (.int x3)] maxLocals = mkF m 0 #[.val (.long x0), .second, .val (.int x1), .val (.int x2), .val (.int x3), .unset, .unset, .unset, .unset, .unset, .unset, .unset, .unset, .unset, .unset, .unset, .unset] [] := by first | (simp [entryFrame, mkF, argsToLocals, Value.category, maxLocals]; done) | rfl
set_option maxRecDepth 65536 in
set_option maxHeartbeats 40000000 in
theorem rm_law (l : Launch) (Z : State) (a0 : Array Value) (hw : ∀ d ∈ tables_1, d.before a0 Z = true) (ws : List Jvm.Cond) (q0 : Int64) (p1 : Int32) (p2 : Int32) (p3 : Int32) (h0 : Heap) (n0 : Nat) (Z0 : n0 ≤ h0.size) :
    MetFree l x (head1 (Jvm.Cond.code x code maxLocals ret :: ws) room_1) (fun a U => a = #[(.long q0), (.int p1), (.int p2), (.int p3)] ∧ Z.Warmed39 U.vm ∧ U.heap = h0) (fun _ _ _ _ _ => True) (fun _ U o U' => ∃ v L, o = .returned v ∧ QL n0 v U'.heap L ∧ FrameEnd U o U' L room_1.cells room_1.slots) := by
  refine MetFree.of_bodySF (plainFor_of_name law_pn) hisR ?_
  intro p e s m args below meth c s₁ Bd hml0 hP hK
  obtain ⟨rfl, hZ, hh⟩ := hP
  have hx := Bd.exec
  have hby := Bd.bytes
  have hml : c.maxLocals = 17 := hml0
  have hown : s.vm.findClass "com/example/floatline/floatline/io/DateTextProlepticMonthPinLaw" = some m.cls := findClass_of_methodNamed Bd.named
  have hnm := (name_of_methodNamed Bd.named Bd.method).1
  have X0 : Stand p l e room_1 s m #[(.long q0), (.int p1), (.int p2), (.int p3)] below meth c s₁ [] 0 0 := Stand.of_body Bd
  have e0 : s₁.heap = h0 := by rw [← hh, Bd.state]; rfl
  have N0 := Fr.nil n0
  obtain ⟨P0, hP0⟩ : ∃ P0 : State → Prop, P0 = fun t => Steps p.tables e below (s₁.setTop (entryFrame m #[(.long q0), (.int p1), (.int p2), (.int p3)] maxLocals)) t := ⟨_, rfl⟩
  have K0 : ∀ t, Steps p.tables e below (s₁.setTop (mkF m 0 #[.val (.long q0), .second, .val (.int p1), .val (.int p2), .val (.int p3), .unset, .unset, .unset, .unset, .unset, .unset, .unset, .unset, .unset, .unset, .unset, .unset] [])) t → P0 t := by
    intro t k; rw [hP0]; exact castTop (law_ef m q0 p1 p2 p3) k
  obtain ⟨T1, h1, k1, X1, e1, E1, A1, st1⟩ := newP X0 hx hZ (hw _ (List.mem_of_getElem? (i := 0) rfl)) e0 (g := (mkF m 2 #[.val (.long q0), .second, .val (.int p1), .val (.int p2), .val (.int p3), .unset, .unset, .unset, .unset, .unset, .unset, .unset, .unset, .unset, .unset, .unset, .unset] [(.int (10 : Int32))])) rfl (hb hby at_2) rfl (by decide) (cap := 10) (by decide) (by decide) (by decide) (by decide)
  obtain ⟨b2, g1⟩ : ∃ z, z = h0.size := ⟨_, rfl⟩
  have g_b2 : n0 ≤ b2 := Nat.le_trans Z0 (Nat.le_of_eq g1.symm)
  rw [← g1] at A1 st1
  have Z1 : n0 ≤ h1.size := Nat.le_trans Z0 E1.1
  obtain ⟨f2, hf2, V1⟩ : ∃ f2 : Nat → Int32, f2 = (fun _ => 0) ∧ IA Z h1 b2 .byte 10 f2 := ⟨_, rfl, IA.new A1 rfl rfl (by decide)⟩
  obtain ⟨_, _, ⟨T2, L2, k2, n2⟩, -, X2, ⟨Lc2, hQ2, l2, y2, z2⟩, st2⟩ := Jvm.LawKit.callS X1 hx (y := (⟨"com/example/floatline/floatline/io/DateTextProlepticMonthPinLaw", "pick", "(JIII)B"⟩ : MethodName)) hown (mvT hZ (hw _ (List.mem_of_getElem? (i := 1) rfl))) (mvT hZ (hw _ (List.mem_of_getElem? (i := 2) rfl))) (mvT hZ (hw _ (List.mem_of_getElem? (i := 3) rfl))) (mvT hZ (hw _ (List.mem_of_getElem? (i := 4) rfl))) (by decide) (backOf (W := 2) (rm_pck l Z a0 hw [] q0 p1 p2 (0 : Int32) h1 n0 Z1 ) hZ (hw _ (List.mem_of_getElem? (i := 4) rfl)) (hw _ (List.mem_of_getElem? (i := 3) rfl)) (by decide) (by decide)) (g := (mkF m 13 #[.val (.long q0), .second, .val (.int p1), .val (.int p2), .val (.int p3), .val (.ref b2), .unset, .unset, .unset, .unset, .unset, .unset, .unset, .unset, .unset, .unset, .unset] [(.int (0 : Int32)), (.int p2), (.int p1), (.long q0), (.int (0 : Int32)), (.ref b2)])) rfl (by rw [hml]; rfl) (argsL := [(.long q0), (.int p1), (.int p2), (.int (0 : Int32))]) (rest := [(.int (0 : Int32)), (.ref b2)]) (lenOf law_pd0 rfl) rfl (by show 2 * 0 + _ ≤ _; exact Nat.le_of_eq rfl) (hb hby at_13) (fun _ _ => ⟨rfl, e1, (by decide : 1 + 0 ≤ _), (by decide : 10 + 0 ≤ _)⟩)
  dsimp only [Pt.U, Pt.locs, Pt.cells, Pt.slots] at X2 l2 y2 z2 st2 hQ2
  rw [l2, y2, z2] at X2
  obtain ⟨rfl, N2q, e2⟩ := hQ2
  have N2 := Fr.app N0 N2q
  obtain ⟨T3, h3, X3, e3, ⟨sl3, vv3, W3⟩, V3, st3⟩ := stBA X2 hx hZ e2 V1 (j := (0 : Int32)) (x := (fPick q0 p1 p2 (0 : Int32))) (by decide) (g := (mkF m 16 #[.val (.long q0), .second, .val (.int p1), .val (.int p2), .val (.int p3), .val (.ref b2), .unset, .unset, .unset, .unset, .unset, .unset, .unset, .unset, .unset, .unset, .unset] [(.int (fPick q0 p1 p2 (0 : Int32))), (.int (0 : Int32)), (.ref b2)])) rfl rfl (hb hby at_16)
  have Z3 : n0 ≤ h3.size := Nat.le_trans Z1 (Keep.of_wr W3).1
  have N3 := Fr.snoc X3 N2 g_b2
  obtain ⟨f16, hf16, V3'⟩ : ∃ f16 : Nat → Int32, f16 = (upd f2 ((0 : Int32)).toNatClampNeg (nar .byte (fPick q0 p1 p2 (0 : Int32)))) ∧ IA Z h3 b2 .byte 10 f16 := ⟨_, rfl, V3⟩
  obtain ⟨_, _, ⟨T4, L4, k4, n4⟩, -, X4, ⟨Lc4, hQ4, l4, y4, z4⟩, st4⟩ := Jvm.LawKit.callS X3 hx (y := (⟨"com/example/floatline/floatline/io/DateTextProlepticMonthPinLaw", "pick", "(JIII)B"⟩ : MethodName)) hown (mvT hZ (hw _ (List.mem_of_getElem? (i := 1) rfl))) (mvT hZ (hw _ (List.mem_of_getElem? (i := 2) rfl))) (mvT hZ (hw _ (List.mem_of_getElem? (i := 3) rfl))) (mvT hZ (hw _ (List.mem_of_getElem? (i := 4) rfl))) (by decide) (backOf (W := 2) (rm_pck l Z a0 hw [] q0 p1 p2 (1 : Int32) h3 n0 Z3 ) hZ (hw _ (List.mem_of_getElem? (i := 4) rfl)) (hw _ (List.mem_of_getElem? (i := 3) rfl)) (by decide) (by decide)) (g := (mkF m 24 #[.val (.long q0), .second, .val (.int p1), .val (.int p2), .val (.int p3), .val (.ref b2), .unset, .unset, .unset, .unset, .unset, .unset, .unset, .unset, .unset, .unset, .unset] [(.int (1 : Int32)), (.int p2), (.int p1), (.long q0), (.int (1 : Int32)), (.ref b2)])) rfl (by rw [hml]; rfl) (argsL := [(.long q0), (.int p1), (.int p2), (.int (1 : Int32))]) (rest := [(.int (1 : Int32)), (.ref b2)]) (lenOf law_pd0 rfl) rfl (by show 2 * 0 + _ ≤ _; exact Nat.le_of_eq rfl) (hb hby at_24) (fun _ _ => ⟨rfl, e3, (by decide : 1 + 0 ≤ _), (by decide : 10 + 0 ≤ _)⟩)
  dsimp only [Pt.U, Pt.locs, Pt.cells, Pt.slots] at X4 l4 y4 z4 st4 hQ4
  rw [l4, y4, z4] at X4
  obtain ⟨rfl, N4q, e4⟩ := hQ4
  have N4 := Fr.app N3 N4q
  obtain ⟨T5, h5, X5, e5, ⟨sl5, vv5, W5⟩, V5, st5⟩ := stBA X4 hx hZ e4 V3' (j := (1 : Int32)) (x := (fPick q0 p1 p2 (1 : Int32))) (by decide) (g := (mkF m 27 #[.val (.long q0), .second, .val (.int p1), .val (.int p2), .val (.int p3), .val (.ref b2), .unset, .unset, .unset, .unset, .unset, .unset, .unset, .unset, .unset, .unset, .unset] [(.int (fPick q0 p1 p2 (1 : Int32))), (.int (1 : Int32)), (.ref b2)])) rfl rfl (hb hby at_27)
  have Z5 : n0 ≤ h5.size := Nat.le_trans Z3 (Keep.of_wr W5).1
  have N5 := Fr.snoc X5 N4 g_b2
  obtain ⟨f27, hf27, V5'⟩ : ∃ f27 : Nat → Int32, f27 = (upd f16 ((1 : Int32)).toNatClampNeg (nar .byte (fPick q0 p1 p2 (1 : Int32)))) ∧ IA Z h5 b2 .byte 10 f27 := ⟨_, rfl, V5⟩
  obtain ⟨_, _, ⟨T6, L6, k6, n6⟩, -, X6, ⟨Lc6, hQ6, l6, y6, z6⟩, st6⟩ := Jvm.LawKit.callS X5 hx (y := (⟨"com/example/floatline/floatline/io/DateTextProlepticMonthPinLaw", "pick", "(JIII)B"⟩ : MethodName)) hown (mvT hZ (hw _ (List.mem_of_getElem? (i := 1) rfl))) (mvT hZ (hw _ (List.mem_of_getElem? (i := 2) rfl))) (mvT hZ (hw _ (List.mem_of_getElem? (i := 3) rfl))) (mvT hZ (hw _ (List.mem_of_getElem? (i := 4) rfl))) (by decide) (backOf (W := 2) (rm_pck l Z a0 hw [] q0 p1 p2 (2 : Int32) h5 n0 Z5 ) hZ (hw _ (List.mem_of_getElem? (i := 4) rfl)) (hw _ (List.mem_of_getElem? (i := 3) rfl)) (by decide) (by decide)) (g := (mkF m 35 #[.val (.long q0), .second, .val (.int p1), .val (.int p2), .val (.int p3), .val (.ref b2), .unset, .unset, .unset, .unset, .unset, .unset, .unset, .unset, .unset, .unset, .unset] [(.int (2 : Int32)), (.int p2), (.int p1), (.long q0), (.int (2 : Int32)), (.ref b2)])) rfl (by rw [hml]; rfl) (argsL := [(.long q0), (.int p1), (.int p2), (.int (2 : Int32))]) (rest := [(.int (2 : Int32)), (.ref b2)]) (lenOf law_pd0 rfl) rfl (by show 2 * 0 + _ ≤ _; exact Nat.le_of_eq rfl) (hb hby at_35) (fun _ _ => ⟨rfl, e5, (by decide : 1 + 0 ≤ _), (by decide : 10 + 0 ≤ _)⟩)
  dsimp only [Pt.U, Pt.locs, Pt.cells, Pt.slots] at X6 l6 y6 z6 st6 hQ6
  rw [l6, y6, z6] at X6
  obtain ⟨rfl, N6q, e6⟩ := hQ6
  have N6 := Fr.app N5 N6q
  obtain ⟨T7, h7, X7, e7, ⟨sl7, vv7, W7⟩, V7, st7⟩ := stBA X6 hx hZ e6 V5' (j := (2 : Int32)) (x := (fPick q0 p1 p2 (2 : Int32))) (by decide) (g := (mkF m 38 #[.val (.long q0), .second, .val (.int p1), .val (.int p2), .val (.int p3), .val (.ref b2), .unset, .unset, .unset, .unset, .unset, .unset, .unset, .unset, .unset, .unset, .unset] [(.int (fPick q0 p1 p2 (2 : Int32))), (.int (2 : Int32)), (.ref b2)])) rfl rfl (hb hby at_38)
  have Z7 : n0 ≤ h7.size := Nat.le_trans Z5 (Keep.of_wr W7).1
  have N7 := Fr.snoc X7 N6 g_b2
  obtain ⟨f38, hf38, V7'⟩ : ∃ f38 : Nat → Int32, f38 = (upd f27 ((2 : Int32)).toNatClampNeg (nar .byte (fPick q0 p1 p2 (2 : Int32)))) ∧ IA Z h7 b2 .byte 10 f38 := ⟨_, rfl, V7⟩
  obtain ⟨_, _, ⟨T8, L8, k8, n8⟩, -, X8, ⟨Lc8, hQ8, l8, y8, z8⟩, st8⟩ := Jvm.LawKit.callS X7 hx (y := (⟨"com/example/floatline/floatline/io/DateTextProlepticMonthPinLaw", "pick", "(JIII)B"⟩ : MethodName)) hown (mvT hZ (hw _ (List.mem_of_getElem? (i := 1) rfl))) (mvT hZ (hw _ (List.mem_of_getElem? (i := 2) rfl))) (mvT hZ (hw _ (List.mem_of_getElem? (i := 3) rfl))) (mvT hZ (hw _ (List.mem_of_getElem? (i := 4) rfl))) (by decide) (backOf (W := 2) (rm_pck l Z a0 hw [] q0 p1 p2 (3 : Int32) h7 n0 Z7 ) hZ (hw _ (List.mem_of_getElem? (i := 4) rfl)) (hw _ (List.mem_of_getElem? (i := 3) rfl)) (by decide) (by decide)) (g := (mkF m 46 #[.val (.long q0), .second, .val (.int p1), .val (.int p2), .val (.int p3), .val (.ref b2), .unset, .unset, .unset, .unset, .unset, .unset, .unset, .unset, .unset, .unset, .unset] [(.int (3 : Int32)), (.int p2), (.int p1), (.long q0), (.int (3 : Int32)), (.ref b2)])) rfl (by rw [hml]; rfl) (argsL := [(.long q0), (.int p1), (.int p2), (.int (3 : Int32))]) (rest := [(.int (3 : Int32)), (.ref b2)]) (lenOf law_pd0 rfl) rfl (by show 2 * 0 + _ ≤ _; exact Nat.le_of_eq rfl) (hb hby at_46) (fun _ _ => ⟨rfl, e7, (by decide : 1 + 0 ≤ _), (by decide : 10 + 0 ≤ _)⟩)
  dsimp only [Pt.U, Pt.locs, Pt.cells, Pt.slots] at X8 l8 y8 z8 st8 hQ8
  rw [l8, y8, z8] at X8
  obtain ⟨rfl, N8q, e8⟩ := hQ8
  have N8 := Fr.app N7 N8q
  obtain ⟨T9, h9, X9, e9, ⟨sl9, vv9, W9⟩, V9, st9⟩ := stBA X8 hx hZ e8 V7' (j := (3 : Int32)) (x := (fPick q0 p1 p2 (3 : Int32))) (by decide) (g := (mkF m 49 #[.val (.long q0), .second, .val (.int p1), .val (.int p2), .val (.int p3), .val (.ref b2), .unset, .unset, .unset, .unset, .unset, .unset, .unset, .unset, .unset, .unset, .unset] [(.int (fPick q0 p1 p2 (3 : Int32))), (.int (3 : Int32)), (.ref b2)])) rfl rfl (hb hby at_49)
  have Z9 : n0 ≤ h9.size := Nat.le_trans Z7 (Keep.of_wr W9).1
  have N9 := Fr.snoc X9 N8 g_b2
  obtain ⟨f49, hf49, V9'⟩ : ∃ f49 : Nat → Int32, f49 = (upd f38 ((3 : Int32)).toNatClampNeg (nar .byte (fPick q0 p1 p2 (3 : Int32)))) ∧ IA Z h9 b2 .byte 10 f49 := ⟨_, rfl, V9⟩
  obtain ⟨_, _, ⟨T10, L10, k10, n10⟩, -, X10, ⟨Lc10, hQ10, l10, y10, z10⟩, st10⟩ := Jvm.LawKit.callS X9 hx (y := (⟨"com/example/floatline/floatline/io/DateTextProlepticMonthPinLaw", "pick", "(JIII)B"⟩ : MethodName)) hown (mvT hZ (hw _ (List.mem_of_getElem? (i := 1) rfl))) (mvT hZ (hw _ (List.mem_of_getElem? (i := 2) rfl))) (mvT hZ (hw _ (List.mem_of_getElem? (i := 3) rfl))) (mvT hZ (hw _ (List.mem_of_getElem? (i := 4) rfl))) (by decide) (backOf (W := 2) (rm_pck l Z a0 hw [] q0 p1 p2 (4 : Int32) h9 n0 Z9 ) hZ (hw _ (List.mem_of_getElem? (i := 4) rfl)) (hw _ (List.mem_of_getElem? (i := 3) rfl)) (by decide) (by decide)) (g := (mkF m 57 #[.val (.long q0), .second, .val (.int p1), .val (.int p2), .val (.int p3), .val (.ref b2), .unset, .unset, .unset, .unset, .unset, .unset, .unset, .unset, .unset, .unset, .unset] [(.int (4 : Int32)), (.int p2), (.int p1), (.long q0), (.int (4 : Int32)), (.ref b2)])) rfl (by rw [hml]; rfl) (argsL := [(.long q0), (.int p1), (.int p2), (.int (4 : Int32))]) (rest := [(.int (4 : Int32)), (.ref b2)]) (lenOf law_pd0 rfl) rfl (by show 2 * 0 + _ ≤ _; exact Nat.le_of_eq rfl) (hb hby at_57) (fun _ _ => ⟨rfl, e9, (by decide : 1 + 0 ≤ _), (by decide : 10 + 0 ≤ _)⟩)
  dsimp only [Pt.U, Pt.locs, Pt.cells, Pt.slots] at X10 l10 y10 z10 st10 hQ10
  rw [l10, y10, z10] at X10
  obtain ⟨rfl, N10q, e10⟩ := hQ10
  have N10 := Fr.app N9 N10q
  obtain ⟨T11, h11, X11, e11, ⟨sl11, vv11, W11⟩, V11, st11⟩ := stBA X10 hx hZ e10 V9' (j := (4 : Int32)) (x := (fPick q0 p1 p2 (4 : Int32))) (by decide) (g := (mkF m 60 #[.val (.long q0), .second, .val (.int p1), .val (.int p2), .val (.int p3), .val (.ref b2), .unset, .unset, .unset, .unset, .unset, .unset, .unset, .unset, .unset, .unset, .unset] [(.int (fPick q0 p1 p2 (4 : Int32))), (.int (4 : Int32)), (.ref b2)])) rfl rfl (hb hby at_60)
  have Z11 : n0 ≤ h11.size := Nat.le_trans Z9 (Keep.of_wr W11).1
  have N11 := Fr.snoc X11 N10 g_b2
  obtain ⟨f60, hf60, V11'⟩ : ∃ f60 : Nat → Int32, f60 = (upd f49 ((4 : Int32)).toNatClampNeg (nar .byte (fPick q0 p1 p2 (4 : Int32)))) ∧ IA Z h11 b2 .byte 10 f60 := ⟨_, rfl, V11⟩
  obtain ⟨_, _, ⟨T12, L12, k12, n12⟩, -, X12, ⟨Lc12, hQ12, l12, y12, z12⟩, st12⟩ := Jvm.LawKit.callS X11 hx (y := (⟨"com/example/floatline/floatline/io/DateTextProlepticMonthPinLaw", "pick", "(JIII)B"⟩ : MethodName)) hown (mvT hZ (hw _ (List.mem_of_getElem? (i := 1) rfl))) (mvT hZ (hw _ (List.mem_of_getElem? (i := 2) rfl))) (mvT hZ (hw _ (List.mem_of_getElem? (i := 3) rfl))) (mvT hZ (hw _ (List.mem_of_getElem? (i := 4) rfl))) (by decide) (backOf (W := 2) (rm_pck l Z a0 hw [] q0 p1 p2 (5 : Int32) h11 n0 Z11 ) hZ (hw _ (List.mem_of_getElem? (i := 4) rfl)) (hw _ (List.mem_of_getElem? (i := 3) rfl)) (by decide) (by decide)) (g := (mkF m 68 #[.val (.long q0), .second, .val (.int p1), .val (.int p2), .val (.int p3), .val (.ref b2), .unset, .unset, .unset, .unset, .unset, .unset, .unset, .unset, .unset, .unset, .unset] [(.int (5 : Int32)), (.int p2), (.int p1), (.long q0), (.int (5 : Int32)), (.ref b2)])) rfl (by rw [hml]; rfl) (argsL := [(.long q0), (.int p1), (.int p2), (.int (5 : Int32))]) (rest := [(.int (5 : Int32)), (.ref b2)]) (lenOf law_pd0 rfl) rfl (by show 2 * 0 + _ ≤ _; exact Nat.le_of_eq rfl) (hb hby at_68) (fun _ _ => ⟨rfl, e11, (by decide : 1 + 0 ≤ _), (by decide : 10 + 0 ≤ _)⟩)
  dsimp only [Pt.U, Pt.locs, Pt.cells, Pt.slots] at X12 l12 y12 z12 st12 hQ12
  rw [l12, y12, z12] at X12
  obtain ⟨rfl, N12q, e12⟩ := hQ12
  have N12 := Fr.app N11 N12q
  obtain ⟨T13, h13, X13, e13, ⟨sl13, vv13, W13⟩, V13, st13⟩ := stBA X12 hx hZ e12 V11' (j := (5 : Int32)) (x := (fPick q0 p1 p2 (5 : Int32))) (by decide) (g := (mkF m 71 #[.val (.long q0), .second, .val (.int p1), .val (.int p2), .val (.int p3), .val (.ref b2), .unset, .unset, .unset, .unset, .unset, .unset, .unset, .unset, .unset, .unset, .unset] [(.int (fPick q0 p1 p2 (5 : Int32))), (.int (5 : Int32)), (.ref b2)])) rfl rfl (hb hby at_71)
  have Z13 : n0 ≤ h13.size := Nat.le_trans Z11 (Keep.of_wr W13).1
  have N13 := Fr.snoc X13 N12 g_b2
  obtain ⟨f71, hf71, V13'⟩ : ∃ f71 : Nat → Int32, f71 = (upd f60 ((5 : Int32)).toNatClampNeg (nar .byte (fPick q0 p1 p2 (5 : Int32)))) ∧ IA Z h13 b2 .byte 10 f71 := ⟨_, rfl, V13⟩
  obtain ⟨_, _, ⟨T14, L14, k14, n14⟩, -, X14, ⟨Lc14, hQ14, l14, y14, z14⟩, st14⟩ := Jvm.LawKit.callS X13 hx (y := (⟨"com/example/floatline/floatline/io/DateTextProlepticMonthPinLaw", "pick", "(JIII)B"⟩ : MethodName)) hown (mvT hZ (hw _ (List.mem_of_getElem? (i := 1) rfl))) (mvT hZ (hw _ (List.mem_of_getElem? (i := 2) rfl))) (mvT hZ (hw _ (List.mem_of_getElem? (i := 3) rfl))) (mvT hZ (hw _ (List.mem_of_getElem? (i := 4) rfl))) (by decide) (backOf (W := 2) (rm_pck l Z a0 hw [] q0 p1 p2 (6 : Int32) h13 n0 Z13 ) hZ (hw _ (List.mem_of_getElem? (i := 4) rfl)) (hw _ (List.mem_of_getElem? (i := 3) rfl)) (by decide) (by decide)) (g := (mkF m 81 #[.val (.long q0), .second, .val (.int p1), .val (.int p2), .val (.int p3), .val (.ref b2), .unset, .unset, .unset, .unset, .unset, .unset, .unset, .unset, .unset, .unset, .unset] [(.int (6 : Int32)), (.int p2), (.int p1), (.long q0), (.int (6 : Int32)), (.ref b2)])) rfl (by rw [hml]; rfl) (argsL := [(.long q0), (.int p1), (.int p2), (.int (6 : Int32))]) (rest := [(.int (6 : Int32)), (.ref b2)]) (lenOf law_pd0 rfl) rfl (by show 2 * 0 + _ ≤ _; exact Nat.le_of_eq rfl) (hb hby at_81) (fun _ _ => ⟨rfl, e13, (by decide : 1 + 0 ≤ _), (by decide : 10 + 0 ≤ _)⟩)
  dsimp only [Pt.U, Pt.locs, Pt.cells, Pt.slots] at X14 l14 y14 z14 st14 hQ14
  rw [l14, y14, z14] at X14
  obtain ⟨rfl, N14q, e14⟩ := hQ14
  have N14 := Fr.app N13 N14q
  obtain ⟨T15, h15, X15, e15, ⟨sl15, vv15, W15⟩, V15, st15⟩ := stBA X14 hx hZ e14 V13' (j := (6 : Int32)) (x := (fPick q0 p1 p2 (6 : Int32))) (by decide) (g := (mkF m 84 #[.val (.long q0), .second, .val (.int p1), .val (.int p2), .val (.int p3), .val (.ref b2), .unset, .unset, .unset, .unset, .unset, .unset, .unset, .unset, .unset, .unset, .unset] [(.int (fPick q0 p1 p2 (6 : Int32))), (.int (6 : Int32)), (.ref b2)])) rfl rfl (hb hby at_84)
  have Z15 : n0 ≤ h15.size := Nat.le_trans Z13 (Keep.of_wr W15).1
  have N15 := Fr.snoc X15 N14 g_b2
  obtain ⟨f84, hf84, V15'⟩ : ∃ f84 : Nat → Int32, f84 = (upd f71 ((6 : Int32)).toNatClampNeg (nar .byte (fPick q0 p1 p2 (6 : Int32)))) ∧ IA Z h15 b2 .byte 10 f84 := ⟨_, rfl, V15⟩
  obtain ⟨_, _, ⟨T16, L16, k16, n16⟩, -, X16, ⟨Lc16, hQ16, l16, y16, z16⟩, st16⟩ := Jvm.LawKit.callS X15 hx (y := (⟨"com/example/floatline/floatline/io/DateTextProlepticMonthPinLaw", "pick", "(JIII)B"⟩ : MethodName)) hown (mvT hZ (hw _ (List.mem_of_getElem? (i := 1) rfl))) (mvT hZ (hw _ (List.mem_of_getElem? (i := 2) rfl))) (mvT hZ (hw _ (List.mem_of_getElem? (i := 3) rfl))) (mvT hZ (hw _ (List.mem_of_getElem? (i := 4) rfl))) (by decide) (backOf (W := 2) (rm_pck l Z a0 hw [] q0 p1 p2 (7 : Int32) h15 n0 Z15 ) hZ (hw _ (List.mem_of_getElem? (i := 4) rfl)) (hw _ (List.mem_of_getElem? (i := 3) rfl)) (by decide) (by decide)) (g := (mkF m 94 #[.val (.long q0), .second, .val (.int p1), .val (.int p2), .val (.int p3), .val (.ref b2), .unset, .unset, .unset, .unset, .unset, .unset, .unset, .unset, .unset, .unset, .unset] [(.int (7 : Int32)), (.int p2), (.int p1), (.long q0), (.int (7 : Int32)), (.ref b2)])) rfl (by rw [hml]; rfl) (argsL := [(.long q0), (.int p1), (.int p2), (.int (7 : Int32))]) (rest := [(.int (7 : Int32)), (.ref b2)]) (lenOf law_pd0 rfl) rfl (by show 2 * 0 + _ ≤ _; exact Nat.le_of_eq rfl) (hb hby at_94) (fun _ _ => ⟨rfl, e15, (by decide : 1 + 0 ≤ _), (by decide : 10 + 0 ≤ _)⟩)
  dsimp only [Pt.U, Pt.locs, Pt.cells, Pt.slots] at X16 l16 y16 z16 st16 hQ16
  rw [l16, y16, z16] at X16
  obtain ⟨rfl, N16q, e16⟩ := hQ16
  have N16 := Fr.app N15 N16q
  obtain ⟨T17, h17, X17, e17, ⟨sl17, vv17, W17⟩, V17, st17⟩ := stBA X16 hx hZ e16 V15' (j := (7 : Int32)) (x := (fPick q0 p1 p2 (7 : Int32))) (by decide) (g := (mkF m 97 #[.val (.long q0), .second, .val (.int p1), .val (.int p2), .val (.int p3), .val (.ref b2), .unset, .unset, .unset, .unset, .unset, .unset, .unset, .unset, .unset, .unset, .unset] [(.int (fPick q0 p1 p2 (7 : Int32))), (.int (7 : Int32)), (.ref b2)])) rfl rfl (hb hby at_97)
  have Z17 : n0 ≤ h17.size := Nat.le_trans Z15 (Keep.of_wr W17).1
  have N17 := Fr.snoc X17 N16 g_b2
  obtain ⟨f97, hf97, V17'⟩ : ∃ f97 : Nat → Int32, f97 = (upd f84 ((7 : Int32)).toNatClampNeg (nar .byte (fPick q0 p1 p2 (7 : Int32)))) ∧ IA Z h17 b2 .byte 10 f97 := ⟨_, rfl, V17⟩
  obtain ⟨_, _, ⟨T18, L18, k18, n18⟩, -, X18, ⟨Lc18, hQ18, l18, y18, z18⟩, st18⟩ := Jvm.LawKit.callS X17 hx (y := (⟨"com/example/floatline/floatline/io/DateTextProlepticMonthPinLaw", "pick", "(JIII)B"⟩ : MethodName)) hown (mvT hZ (hw _ (List.mem_of_getElem? (i := 1) rfl))) (mvT hZ (hw _ (List.mem_of_getElem? (i := 2) rfl))) (mvT hZ (hw _ (List.mem_of_getElem? (i := 3) rfl))) (mvT hZ (hw _ (List.mem_of_getElem? (i := 4) rfl))) (by decide) (backOf (W := 2) (rm_pck l Z a0 hw [] q0 p1 p2 (8 : Int32) h17 n0 Z17 ) hZ (hw _ (List.mem_of_getElem? (i := 4) rfl)) (hw _ (List.mem_of_getElem? (i := 3) rfl)) (by decide) (by decide)) (g := (mkF m 107 #[.val (.long q0), .second, .val (.int p1), .val (.int p2), .val (.int p3), .val (.ref b2), .unset, .unset, .unset, .unset, .unset, .unset, .unset, .unset, .unset, .unset, .unset] [(.int (8 : Int32)), (.int p2), (.int p1), (.long q0), (.int (8 : Int32)), (.ref b2)])) rfl (by rw [hml]; rfl) (argsL := [(.long q0), (.int p1), (.int p2), (.int (8 : Int32))]) (rest := [(.int (8 : Int32)), (.ref b2)]) (lenOf law_pd0 rfl) rfl (by show 2 * 0 + _ ≤ _; exact Nat.le_of_eq rfl) (hb hby at_107) (fun _ _ => ⟨rfl, e17, (by decide : 1 + 0 ≤ _), (by decide : 10 + 0 ≤ _)⟩)
  dsimp only [Pt.U, Pt.locs, Pt.cells, Pt.slots] at X18 l18 y18 z18 st18 hQ18
  rw [l18, y18, z18] at X18
  obtain ⟨rfl, N18q, e18⟩ := hQ18
  have N18 := Fr.app N17 N18q
  obtain ⟨T19, h19, X19, e19, ⟨sl19, vv19, W19⟩, V19, st19⟩ := stBA X18 hx hZ e18 V17' (j := (8 : Int32)) (x := (fPick q0 p1 p2 (8 : Int32))) (by decide) (g := (mkF m 110 #[.val (.long q0), .second, .val (.int p1), .val (.int p2), .val (.int p3), .val (.ref b2), .unset, .unset, .unset, .unset, .unset, .unset, .unset, .unset, .unset, .unset, .unset] [(.int (fPick q0 p1 p2 (8 : Int32))), (.int (8 : Int32)), (.ref b2)])) rfl rfl (hb hby at_110)
  have Z19 : n0 ≤ h19.size := Nat.le_trans Z17 (Keep.of_wr W19).1
  have N19 := Fr.snoc X19 N18 g_b2
  obtain ⟨f110, hf110, V19'⟩ : ∃ f110 : Nat → Int32, f110 = (upd f97 ((8 : Int32)).toNatClampNeg (nar .byte (fPick q0 p1 p2 (8 : Int32)))) ∧ IA Z h19 b2 .byte 10 f110 := ⟨_, rfl, V19⟩
  obtain ⟨_, _, ⟨T20, L20, k20, n20⟩, -, X20, ⟨Lc20, hQ20, l20, y20, z20⟩, st20⟩ := Jvm.LawKit.callS X19 hx (y := (⟨"com/example/floatline/floatline/io/DateTextProlepticMonthPinLaw", "pick", "(JIII)B"⟩ : MethodName)) hown (mvT hZ (hw _ (List.mem_of_getElem? (i := 1) rfl))) (mvT hZ (hw _ (List.mem_of_getElem? (i := 2) rfl))) (mvT hZ (hw _ (List.mem_of_getElem? (i := 3) rfl))) (mvT hZ (hw _ (List.mem_of_getElem? (i := 4) rfl))) (by decide) (backOf (W := 2) (rm_pck l Z a0 hw [] q0 p1 p2 (9 : Int32) h19 n0 Z19 ) hZ (hw _ (List.mem_of_getElem? (i := 4) rfl)) (hw _ (List.mem_of_getElem? (i := 3) rfl)) (by decide) (by decide)) (g := (mkF m 120 #[.val (.long q0), .second, .val (.int p1), .val (.int p2), .val (.int p3), .val (.ref b2), .unset, .unset, .unset, .unset, .unset, .unset, .unset, .unset, .unset, .unset, .unset] [(.int (9 : Int32)), (.int p2), (.int p1), (.long q0), (.int (9 : Int32)), (.ref b2)])) rfl (by rw [hml]; rfl) (argsL := [(.long q0), (.int p1), (.int p2), (.int (9 : Int32))]) (rest := [(.int (9 : Int32)), (.ref b2)]) (lenOf law_pd0 rfl) rfl (by show 2 * 0 + _ ≤ _; exact Nat.le_of_eq rfl) (hb hby at_120) (fun _ _ => ⟨rfl, e19, (by decide : 1 + 0 ≤ _), (by decide : 10 + 0 ≤ _)⟩)
  dsimp only [Pt.U, Pt.locs, Pt.cells, Pt.slots] at X20 l20 y20 z20 st20 hQ20
  rw [l20, y20, z20] at X20
  obtain ⟨rfl, N20q, e20⟩ := hQ20
  have N20 := Fr.app N19 N20q
  obtain ⟨T21, h21, X21, e21, ⟨sl21, vv21, W21⟩, V21, st21⟩ := stBA X20 hx hZ e20 V19' (j := (9 : Int32)) (x := (fPick q0 p1 p2 (9 : Int32))) (by decide) (g := (mkF m 123 #[.val (.long q0), .second, .val (.int p1), .val (.int p2), .val (.int p3), .val (.ref b2), .unset, .unset, .unset, .unset, .unset, .unset, .unset, .unset, .unset, .unset, .unset] [(.int (fPick q0 p1 p2 (9 : Int32))), (.int (9 : Int32)), (.ref b2)])) rfl rfl (hb hby at_123)
  have Z21 : n0 ≤ h21.size := Nat.le_trans Z19 (Keep.of_wr W21).1
  have N21 := Fr.snoc X21 N20 g_b2
  obtain ⟨f123, hf123, V21'⟩ : ∃ f123 : Nat → Int32, f123 = (upd f110 ((9 : Int32)).toNatClampNeg (nar .byte (fPick q0 p1 p2 (9 : Int32)))) ∧ IA Z h21 b2 .byte 10 f123 := ⟨_, rfl, V21⟩
  have K22 : ∀ t, Steps p.tables e below (T21.setTop (mkF m 130 #[.val (.long q0), .second, .val (.int p1), .val (.int p2), .val (.int p3), .val (.ref b2), .val (.int (p3 &&& (3 : Int32))), .unset, .unset, .unset, .unset, .unset, .unset, .unset, .unset, .unset, .unset] [])) t → P0 t := by
    intro t kt
    refine K0 t ?_
    show Steps p.tables e below (s₁.setTop (mkF m 0 #[.val (.long q0), .second, .val (.int p1), .val (.int p2), .val (.int p3), .unset, .unset, .unset, .unset, .unset, .unset, .unset, .unset, .unset, .unset, .unset, .unset] [])) t
    refine XS.bipush X0.here hx rfl (hb hby at_0) ?_
    show Steps p.tables e below (s₁.setTop (mkF m 2 #[.val (.long q0), .second, .val (.int p1), .val (.int p2), .val (.int p3), .unset, .unset, .unset, .unset, .unset, .unset, .unset, .unset, .unset, .unset, .unset, .unset] [(.int (10 : Int32))])) t
    refine st1 _ ?_
    show Steps p.tables e below (T1.setTop (mkF m 4 #[.val (.long q0), .second, .val (.int p1), .val (.int p2), .val (.int p3), .unset, .unset, .unset, .unset, .unset, .unset, .unset, .unset, .unset, .unset, .unset, .unset] [(.ref b2)])) t
    refine XS.astore X1.here hx rfl (hb hby at_4) rfl rfl (l' := #[.val (.long q0), .second, .val (.int p1), .val (.int p2), .val (.int p3), .val (.ref b2), .unset, .unset, .unset, .unset, .unset, .unset, .unset, .unset, .unset, .unset, .unset]) rfl ?_
    show Steps p.tables e below (T1.setTop (mkF m 6 #[.val (.long q0), .second, .val (.int p1), .val (.int p2), .val (.int p3), .val (.ref b2), .unset, .unset, .unset, .unset, .unset, .unset, .unset, .unset, .unset, .unset, .unset] [])) t
    refine XS.aload X1.here hx rfl (hb hby at_6) rfl rfl ?_
    show Steps p.tables e below (T1.setTop (mkF m 8 #[.val (.long q0), .second, .val (.int p1), .val (.int p2), .val (.int p3), .val (.ref b2), .unset, .unset, .unset, .unset, .unset, .unset, .unset, .unset, .unset, .unset, .unset] [(.ref b2)])) t
    refine XS.iconst X1.here hx rfl (hb hby at_8) ?_
    show Steps p.tables e below (T1.setTop (mkF m 9 #[.val (.long q0), .second, .val (.int p1), .val (.int p2), .val (.int p3), .val (.ref b2), .unset, .unset, .unset, .unset, .unset, .unset, .unset, .unset, .unset, .unset, .unset] [(.int (0 : Int32)), (.ref b2)])) t
    refine XS.lloadN X1.here hx rfl (hb hby at_9) rfl ?_
    show Steps p.tables e below (T1.setTop (mkF m 10 #[.val (.long q0), .second, .val (.int p1), .val (.int p2), .val (.int p3), .val (.ref b2), .unset, .unset, .unset, .unset, .unset, .unset, .unset, .unset, .unset, .unset, .unset] [(.long q0), (.int (0 : Int32)), (.ref b2)])) t
    refine XS.iloadN X1.here hx rfl (hb hby at_10) rfl ?_
    show Steps p.tables e below (T1.setTop (mkF m 11 #[.val (.long q0), .second, .val (.int p1), .val (.int p2), .val (.int p3), .val (.ref b2), .unset, .unset, .unset, .unset, .unset, .unset, .unset, .unset, .unset, .unset, .unset] [(.int p1), (.long q0), (.int (0 : Int32)), (.ref b2)])) t
    refine XS.iloadN X1.here hx rfl (hb hby at_11) rfl ?_
    show Steps p.tables e below (T1.setTop (mkF m 12 #[.val (.long q0), .second, .val (.int p1), .val (.int p2), .val (.int p3), .val (.ref b2), .unset, .unset, .unset, .unset, .unset, .unset, .unset, .unset, .unset, .unset, .unset] [(.int p2), (.int p1), (.long q0), (.int (0 : Int32)), (.ref b2)])) t
    refine XS.iconst X1.here hx rfl (hb hby at_12) ?_
    show Steps p.tables e below (T1.setTop (mkF m 13 #[.val (.long q0), .second, .val (.int p1), .val (.int p2), .val (.int p3), .val (.ref b2), .unset, .unset, .unset, .unset, .unset, .unset, .unset, .unset, .unset, .unset, .unset] [(.int (0 : Int32)), (.int p2), (.int p1), (.long q0), (.int (0 : Int32)), (.ref b2)])) t
    refine st2 _ ?_
    show Steps p.tables e below (T2.setTop (mkF m 16 #[.val (.long q0), .second, .val (.int p1), .val (.int p2), .val (.int p3), .val (.ref b2), .unset, .unset, .unset, .unset, .unset, .unset, .unset, .unset, .unset, .unset, .unset] [(.int (fPick q0 p1 p2 (0 : Int32))), (.int (0 : Int32)), (.ref b2)])) t
    refine st3 _ ?_
    show Steps p.tables e below (T3.setTop (mkF m 17 #[.val (.long q0), .second, .val (.int p1), .val (.int p2), .val (.int p3), .val (.ref b2), .unset, .unset, .unset, .unset, .unset, .unset, .unset, .unset, .unset, .unset, .unset] [])) t
    refine XS.aload X3.here hx rfl (hb hby at_17) rfl rfl ?_
    show Steps p.tables e below (T3.setTop (mkF m 19 #[.val (.long q0), .second, .val (.int p1), .val (.int p2), .val (.int p3), .val (.ref b2), .unset, .unset, .unset, .unset, .unset, .unset, .unset, .unset, .unset, .unset, .unset] [(.ref b2)])) t
    refine XS.iconst X3.here hx rfl (hb hby at_19) ?_
    show Steps p.tables e below (T3.setTop (mkF m 20 #[.val (.long q0), .second, .val (.int p1), .val (.int p2), .val (.int p3), .val (.ref b2), .unset, .unset, .unset, .unset, .unset, .unset, .unset, .unset, .unset, .unset, .unset] [(.int (1 : Int32)), (.ref b2)])) t
    refine XS.lloadN X3.here hx rfl (hb hby at_20) rfl ?_
    show Steps p.tables e below (T3.setTop (mkF m 21 #[.val (.long q0), .second, .val (.int p1), .val (.int p2), .val (.int p3), .val (.ref b2), .unset, .unset, .unset, .unset, .unset, .unset, .unset, .unset, .unset, .unset, .unset] [(.long q0), (.int (1 : Int32)), (.ref b2)])) t
    refine XS.iloadN X3.here hx rfl (hb hby at_21) rfl ?_
    show Steps p.tables e below (T3.setTop (mkF m 22 #[.val (.long q0), .second, .val (.int p1), .val (.int p2), .val (.int p3), .val (.ref b2), .unset, .unset, .unset, .unset, .unset, .unset, .unset, .unset, .unset, .unset, .unset] [(.int p1), (.long q0), (.int (1 : Int32)), (.ref b2)])) t
    refine XS.iloadN X3.here hx rfl (hb hby at_22) rfl ?_
    show Steps p.tables e below (T3.setTop (mkF m 23 #[.val (.long q0), .second, .val (.int p1), .val (.int p2), .val (.int p3), .val (.ref b2), .unset, .unset, .unset, .unset, .unset, .unset, .unset, .unset, .unset, .unset, .unset] [(.int p2), (.int p1), (.long q0), (.int (1 : Int32)), (.ref b2)])) t
    refine XS.iconst X3.here hx rfl (hb hby at_23) ?_
    show Steps p.tables e below (T3.setTop (mkF m 24 #[.val (.long q0), .second, .val (.int p1), .val (.int p2), .val (.int p3), .val (.ref b2), .unset, .unset, .unset, .unset, .unset, .unset, .unset, .unset, .unset, .unset, .unset] [(.int (1 : Int32)), (.int p2), (.int p1), (.long q0), (.int (1 : Int32)), (.ref b2)])) t
    refine st4 _ ?_
    show Steps p.tables e below (T4.setTop (mkF m 27 #[.val (.long q0), .second, .val (.int p1), .val (.int p2), .val (.int p3), .val (.ref b2), .unset, .unset, .unset, .unset, .unset, .unset, .unset, .unset, .unset, .unset, .unset] [(.int (fPick q0 p1 p2 (1 : Int32))), (.int (1 : Int32)), (.ref b2)])) t
    refine st5 _ ?_
    show Steps p.tables e below (T5.setTop (mkF m 28 #[.val (.long q0), .second, .val (.int p1), .val (.int p2), .val (.int p3), .val (.ref b2), .unset, .unset, .unset, .unset, .unset, .unset, .unset, .unset, .unset, .unset, .unset] [])) t
    refine XS.aload X5.here hx rfl (hb hby at_28) rfl rfl ?_
    show Steps p.tables e below (T5.setTop (mkF m 30 #[.val (.long q0), .second, .val (.int p1), .val (.int p2), .val (.int p3), .val (.ref b2), .unset, .unset, .unset, .unset, .unset, .unset, .unset, .unset, .unset, .unset, .unset] [(.ref b2)])) t
    refine XS.iconst X5.here hx rfl (hb hby at_30) ?_
    show Steps p.tables e below (T5.setTop (mkF m 31 #[.val (.long q0), .second, .val (.int p1), .val (.int p2), .val (.int p3), .val (.ref b2), .unset, .unset, .unset, .unset, .unset, .unset, .unset, .unset, .unset, .unset, .unset] [(.int (2 : Int32)), (.ref b2)])) t
    refine XS.lloadN X5.here hx rfl (hb hby at_31) rfl ?_
    show Steps p.tables e below (T5.setTop (mkF m 32 #[.val (.long q0), .second, .val (.int p1), .val (.int p2), .val (.int p3), .val (.ref b2), .unset, .unset, .unset, .unset, .unset, .unset, .unset, .unset, .unset, .unset, .unset] [(.long q0), (.int (2 : Int32)), (.ref b2)])) t
    refine XS.iloadN X5.here hx rfl (hb hby at_32) rfl ?_
    show Steps p.tables e below (T5.setTop (mkF m 33 #[.val (.long q0), .second, .val (.int p1), .val (.int p2), .val (.int p3), .val (.ref b2), .unset, .unset, .unset, .unset, .unset, .unset, .unset, .unset, .unset, .unset, .unset] [(.int p1), (.long q0), (.int (2 : Int32)), (.ref b2)])) t
    refine XS.iloadN X5.here hx rfl (hb hby at_33) rfl ?_
    show Steps p.tables e below (T5.setTop (mkF m 34 #[.val (.long q0), .second, .val (.int p1), .val (.int p2), .val (.int p3), .val (.ref b2), .unset, .unset, .unset, .unset, .unset, .unset, .unset, .unset, .unset, .unset, .unset] [(.int p2), (.int p1), (.long q0), (.int (2 : Int32)), (.ref b2)])) t
    refine XS.iconst X5.here hx rfl (hb hby at_34) ?_
    show Steps p.tables e below (T5.setTop (mkF m 35 #[.val (.long q0), .second, .val (.int p1), .val (.int p2), .val (.int p3), .val (.ref b2), .unset, .unset, .unset, .unset, .unset, .unset, .unset, .unset, .unset, .unset, .unset] [(.int (2 : Int32)), (.int p2), (.int p1), (.long q0), (.int (2 : Int32)), (.ref b2)])) t
    refine st6 _ ?_
    show Steps p.tables e below (T6.setTop (mkF m 38 #[.val (.long q0), .second, .val (.int p1), .val (.int p2), .val (.int p3), .val (.ref b2), .unset, .unset, .unset, .unset, .unset, .unset, .unset, .unset, .unset, .unset, .unset] [(.int (fPick q0 p1 p2 (2 : Int32))), (.int (2 : Int32)), (.ref b2)])) t
    refine st7 _ ?_
    show Steps p.tables e below (T7.setTop (mkF m 39 #[.val (.long q0), .second, .val (.int p1), .val (.int p2), .val (.int p3), .val (.ref b2), .unset, .unset, .unset, .unset, .unset, .unset, .unset, .unset, .unset, .unset, .unset] [])) t
    refine XS.aload X7.here hx rfl (hb hby at_39) rfl rfl ?_
    show Steps p.tables e below (T7.setTop (mkF m 41 #[.val (.long q0), .second, .val (.int p1), .val (.int p2), .val (.int p3), .val (.ref b2), .unset, .unset, .unset, .unset, .unset, .unset, .unset, .unset, .unset, .unset, .unset] [(.ref b2)])) t
    refine XS.iconst X7.here hx rfl (hb hby at_41) ?_
    show Steps p.tables e below (T7.setTop (mkF m 42 #[.val (.long q0), .second, .val (.int p1), .val (.int p2), .val (.int p3), .val (.ref b2), .unset, .unset, .unset, .unset, .unset, .unset, .unset, .unset, .unset, .unset, .unset] [(.int (3 : Int32)), (.ref b2)])) t
    refine XS.lloadN X7.here hx rfl (hb hby at_42) rfl ?_
    show Steps p.tables e below (T7.setTop (mkF m 43 #[.val (.long q0), .second, .val (.int p1), .val (.int p2), .val (.int p3), .val (.ref b2), .unset, .unset, .unset, .unset, .unset, .unset, .unset, .unset, .unset, .unset, .unset] [(.long q0), (.int (3 : Int32)), (.ref b2)])) t
    refine XS.iloadN X7.here hx rfl (hb hby at_43) rfl ?_
    show Steps p.tables e below (T7.setTop (mkF m 44 #[.val (.long q0), .second, .val (.int p1), .val (.int p2), .val (.int p3), .val (.ref b2), .unset, .unset, .unset, .unset, .unset, .unset, .unset, .unset, .unset, .unset, .unset] [(.int p1), (.long q0), (.int (3 : Int32)), (.ref b2)])) t
    refine XS.iloadN X7.here hx rfl (hb hby at_44) rfl ?_
    show Steps p.tables e below (T7.setTop (mkF m 45 #[.val (.long q0), .second, .val (.int p1), .val (.int p2), .val (.int p3), .val (.ref b2), .unset, .unset, .unset, .unset, .unset, .unset, .unset, .unset, .unset, .unset, .unset] [(.int p2), (.int p1), (.long q0), (.int (3 : Int32)), (.ref b2)])) t
    refine XS.iconst X7.here hx rfl (hb hby at_45) ?_
    show Steps p.tables e below (T7.setTop (mkF m 46 #[.val (.long q0), .second, .val (.int p1), .val (.int p2), .val (.int p3), .val (.ref b2), .unset, .unset, .unset, .unset, .unset, .unset, .unset, .unset, .unset, .unset, .unset] [(.int (3 : Int32)), (.int p2), (.int p1), (.long q0), (.int (3 : Int32)), (.ref b2)])) t
    refine st8 _ ?_
    show Steps p.tables e below (T8.setTop (mkF m 49 #[.val (.long q0), .second, .val (.int p1), .val (.int p2), .val (.int p3), .val (.ref b2), .unset, .unset, .unset, .unset, .unset, .unset, .unset, .unset, .unset, .unset, .unset] [(.int (fPick q0 p1 p2 (3 : Int32))), (.int (3 : Int32)), (.ref b2)])) t
    refine st9 _ ?_
    show Steps p.tables e below (T9.setTop (mkF m 50 #[.val (.long q0), .second, .val (.int p1), .val (.int p2), .val (.int p3), .val (.ref b2), .unset, .unset, .unset, .unset, .unset, .unset, .unset, .unset, .unset, .unset, .unset] [])) t
    refine XS.aload X9.here hx rfl (hb hby at_50) rfl rfl ?_
    show Steps p.tables e below (T9.setTop (mkF m 52 #[.val (.long q0), .second, .val (.int p1), .val (.int p2), .val (.int p3), .val (.ref b2), .unset, .unset, .unset, .unset, .unset, .unset, .unset, .unset, .unset, .unset, .unset] [(.ref b2)])) t
    refine XS.iconst X9.here hx rfl (hb hby at_52) ?_
    show Steps p.tables e below (T9.setTop (mkF m 53 #[.val (.long q0), .second, .val (.int p1), .val (.int p2), .val (.int p3), .val (.ref b2), .unset, .unset, .unset, .unset, .unset, .unset, .unset, .unset, .unset, .unset, .unset] [(.int (4 : Int32)), (.ref b2)])) t
    refine XS.lloadN X9.here hx rfl (hb hby at_53) rfl ?_
    show Steps p.tables e below (T9.setTop (mkF m 54 #[.val (.long q0), .second, .val (.int p1), .val (.int p2), .val (.int p3), .val (.ref b2), .unset, .unset, .unset, .unset, .unset, .unset, .unset, .unset, .unset, .unset, .unset] [(.long q0), (.int (4 : Int32)), (.ref b2)])) t
    refine XS.iloadN X9.here hx rfl (hb hby at_54) rfl ?_
    show Steps p.tables e below (T9.setTop (mkF m 55 #[.val (.long q0), .second, .val (.int p1), .val (.int p2), .val (.int p3), .val (.ref b2), .unset, .unset, .unset, .unset, .unset, .unset, .unset, .unset, .unset, .unset, .unset] [(.int p1), (.long q0), (.int (4 : Int32)), (.ref b2)])) t
    refine XS.iloadN X9.here hx rfl (hb hby at_55) rfl ?_
    show Steps p.tables e below (T9.setTop (mkF m 56 #[.val (.long q0), .second, .val (.int p1), .val (.int p2), .val (.int p3), .val (.ref b2), .unset, .unset, .unset, .unset, .unset, .unset, .unset, .unset, .unset, .unset, .unset] [(.int p2), (.int p1), (.long q0), (.int (4 : Int32)), (.ref b2)])) t
    refine XS.iconst X9.here hx rfl (hb hby at_56) ?_
    show Steps p.tables e below (T9.setTop (mkF m 57 #[.val (.long q0), .second, .val (.int p1), .val (.int p2), .val (.int p3), .val (.ref b2), .unset, .unset, .unset, .unset, .unset, .unset, .unset, .unset, .unset, .unset, .unset] [(.int (4 : Int32)), (.int p2), (.int p1), (.long q0), (.int (4 : Int32)), (.ref b2)])) t
    refine st10 _ ?_
    show Steps p.tables e below (T10.setTop (mkF m 60 #[.val (.long q0), .second, .val (.int p1), .val (.int p2), .val (.int p3), .val (.ref b2), .unset, .unset, .unset, .unset, .unset, .unset, .unset, .unset, .unset, .unset, .unset] [(.int (fPick q0 p1 p2 (4 : Int32))), (.int (4 : Int32)), (.ref b2)])) t
    refine st11 _ ?_
    show Steps p.tables e below (T11.setTop (mkF m 61 #[.val (.long q0), .second, .val (.int p1), .val (.int p2), .val (.int p3), .val (.ref b2), .unset, .unset, .unset, .unset, .unset, .unset, .unset, .unset, .unset, .unset, .unset] [])) t
    refine XS.aload X11.here hx rfl (hb hby at_61) rfl rfl ?_
    show Steps p.tables e below (T11.setTop (mkF m 63 #[.val (.long q0), .second, .val (.int p1), .val (.int p2), .val (.int p3), .val (.ref b2), .unset, .unset, .unset, .unset, .unset, .unset, .unset, .unset, .unset, .unset, .unset] [(.ref b2)])) t
    refine XS.iconst X11.here hx rfl (hb hby at_63) ?_
    show Steps p.tables e below (T11.setTop (mkF m 64 #[.val (.long q0), .second, .val (.int p1), .val (.int p2), .val (.int p3), .val (.ref b2), .unset, .unset, .unset, .unset, .unset, .unset, .unset, .unset, .unset, .unset, .unset] [(.int (5 : Int32)), (.ref b2)])) t
    refine XS.lloadN X11.here hx rfl (hb hby at_64) rfl ?_
    show Steps p.tables e below (T11.setTop (mkF m 65 #[.val (.long q0), .second, .val (.int p1), .val (.int p2), .val (.int p3), .val (.ref b2), .unset, .unset, .unset, .unset, .unset, .unset, .unset, .unset, .unset, .unset, .unset] [(.long q0), (.int (5 : Int32)), (.ref b2)])) t
    refine XS.iloadN X11.here hx rfl (hb hby at_65) rfl ?_
    show Steps p.tables e below (T11.setTop (mkF m 66 #[.val (.long q0), .second, .val (.int p1), .val (.int p2), .val (.int p3), .val (.ref b2), .unset, .unset, .unset, .unset, .unset, .unset, .unset, .unset, .unset, .unset, .unset] [(.int p1), (.long q0), (.int (5 : Int32)), (.ref b2)])) t
    refine XS.iloadN X11.here hx rfl (hb hby at_66) rfl ?_
    show Steps p.tables e below (T11.setTop (mkF m 67 #[.val (.long q0), .second, .val (.int p1), .val (.int p2), .val (.int p3), .val (.ref b2), .unset, .unset, .unset, .unset, .unset, .unset, .unset, .unset, .unset, .unset, .unset] [(.int p2), (.int p1), (.long q0), (.int (5 : Int32)), (.ref b2)])) t
    refine XS.iconst X11.here hx rfl (hb hby at_67) ?_
    show Steps p.tables e below (T11.setTop (mkF m 68 #[.val (.long q0), .second, .val (.int p1), .val (.int p2), .val (.int p3), .val (.ref b2), .unset, .unset, .unset, .unset, .unset, .unset, .unset, .unset, .unset, .unset, .unset] [(.int (5 : Int32)), (.int p2), (.int p1), (.long q0), (.int (5 : Int32)), (.ref b2)])) t
    refine st12 _ ?_
    show Steps p.tables e below (T12.setTop (mkF m 71 #[.val (.long q0), .second, .val (.int p1), .val (.int p2), .val (.int p3), .val (.ref b2), .unset, .unset, .unset, .unset, .unset, .unset, .unset, .unset, .unset, .unset, .unset] [(.int (fPick q0 p1 p2 (5 : Int32))), (.int (5 : Int32)), (.ref b2)])) t
    refine st13 _ ?_
    show Steps p.tables e below (T13.setTop (mkF m 72 #[.val (.long q0), .second, .val (.int p1), .val (.int p2), .val (.int p3), .val (.ref b2), .unset, .unset, .unset, .unset, .unset, .unset, .unset, .unset, .unset, .unset, .unset] [])) t
    refine XS.aload X13.here hx rfl (hb hby at_72) rfl rfl ?_
    show Steps p.tables e below (T13.setTop (mkF m 74 #[.val (.long q0), .second, .val (.int p1), .val (.int p2), .val (.int p3), .val (.ref b2), .unset, .unset, .unset, .unset, .unset, .unset, .unset, .unset, .unset, .unset, .unset] [(.ref b2)])) t
    refine XS.bipush X13.here hx rfl (hb hby at_74) ?_
    show Steps p.tables e below (T13.setTop (mkF m 76 #[.val (.long q0), .second, .val (.int p1), .val (.int p2), .val (.int p3), .val (.ref b2), .unset, .unset, .unset, .unset, .unset, .unset, .unset, .unset, .unset, .unset, .unset] [(.int (6 : Int32)), (.ref b2)])) t
    refine XS.lloadN X13.here hx rfl (hb hby at_76) rfl ?_
    show Steps p.tables e below (T13.setTop (mkF m 77 #[.val (.long q0), .second, .val (.int p1), .val (.int p2), .val (.int p3), .val (.ref b2), .unset, .unset, .unset, .unset, .unset, .unset, .unset, .unset, .unset, .unset, .unset] [(.long q0), (.int (6 : Int32)), (.ref b2)])) t
    refine XS.iloadN X13.here hx rfl (hb hby at_77) rfl ?_
    show Steps p.tables e below (T13.setTop (mkF m 78 #[.val (.long q0), .second, .val (.int p1), .val (.int p2), .val (.int p3), .val (.ref b2), .unset, .unset, .unset, .unset, .unset, .unset, .unset, .unset, .unset, .unset, .unset] [(.int p1), (.long q0), (.int (6 : Int32)), (.ref b2)])) t
    refine XS.iloadN X13.here hx rfl (hb hby at_78) rfl ?_
    show Steps p.tables e below (T13.setTop (mkF m 79 #[.val (.long q0), .second, .val (.int p1), .val (.int p2), .val (.int p3), .val (.ref b2), .unset, .unset, .unset, .unset, .unset, .unset, .unset, .unset, .unset, .unset, .unset] [(.int p2), (.int p1), (.long q0), (.int (6 : Int32)), (.ref b2)])) t
    refine XS.bipush X13.here hx rfl (hb hby at_79) ?_
    show Steps p.tables e below (T13.setTop (mkF m 81 #[.val (.long q0), .second, .val (.int p1), .val (.int p2), .val (.int p3), .val (.ref b2), .unset, .unset, .unset, .unset, .unset, .unset, .unset, .unset, .unset, .unset, .unset] [(.int (6 : Int32)), (.int p2), (.int p1), (.long q0), (.int (6 : Int32)), (.ref b2)])) t
    refine st14 _ ?_
    show Steps p.tables e below (T14.setTop (mkF m 84 #[.val (.long q0), .second, .val (.int p1), .val (.int p2), .val (.int p3), .val (.ref b2), .unset, .unset, .unset, .unset, .unset, .unset, .unset, .unset, .unset, .unset, .unset] [(.int (fPick q0 p1 p2 (6 : Int32))), (.int (6 : Int32)), (.ref b2)])) t
    refine st15 _ ?_
    show Steps p.tables e below (T15.setTop (mkF m 85 #[.val (.long q0), .second, .val (.int p1), .val (.int p2), .val (.int p3), .val (.ref b2), .unset, .unset, .unset, .unset, .unset, .unset, .unset, .unset, .unset, .unset, .unset] [])) t
    refine XS.aload X15.here hx rfl (hb hby at_85) rfl rfl ?_
    show Steps p.tables e below (T15.setTop (mkF m 87 #[.val (.long q0), .second, .val (.int p1), .val (.int p2), .val (.int p3), .val (.ref b2), .unset, .unset, .unset, .unset, .unset, .unset, .unset, .unset, .unset, .unset, .unset] [(.ref b2)])) t
    refine XS.bipush X15.here hx rfl (hb hby at_87) ?_
    show Steps p.tables e below (T15.setTop (mkF m 89 #[.val (.long q0), .second, .val (.int p1), .val (.int p2), .val (.int p3), .val (.ref b2), .unset, .unset, .unset, .unset, .unset, .unset, .unset, .unset, .unset, .unset, .unset] [(.int (7 : Int32)), (.ref b2)])) t
    refine XS.lloadN X15.here hx rfl (hb hby at_89) rfl ?_
    show Steps p.tables e below (T15.setTop (mkF m 90 #[.val (.long q0), .second, .val (.int p1), .val (.int p2), .val (.int p3), .val (.ref b2), .unset, .unset, .unset, .unset, .unset, .unset, .unset, .unset, .unset, .unset, .unset] [(.long q0), (.int (7 : Int32)), (.ref b2)])) t
    refine XS.iloadN X15.here hx rfl (hb hby at_90) rfl ?_
    show Steps p.tables e below (T15.setTop (mkF m 91 #[.val (.long q0), .second, .val (.int p1), .val (.int p2), .val (.int p3), .val (.ref b2), .unset, .unset, .unset, .unset, .unset, .unset, .unset, .unset, .unset, .unset, .unset] [(.int p1), (.long q0), (.int (7 : Int32)), (.ref b2)])) t
    refine XS.iloadN X15.here hx rfl (hb hby at_91) rfl ?_
    show Steps p.tables e below (T15.setTop (mkF m 92 #[.val (.long q0), .second, .val (.int p1), .val (.int p2), .val (.int p3), .val (.ref b2), .unset, .unset, .unset, .unset, .unset, .unset, .unset, .unset, .unset, .unset, .unset] [(.int p2), (.int p1), (.long q0), (.int (7 : Int32)), (.ref b2)])) t
    refine XS.bipush X15.here hx rfl (hb hby at_92) ?_
    show Steps p.tables e below (T15.setTop (mkF m 94 #[.val (.long q0), .second, .val (.int p1), .val (.int p2), .val (.int p3), .val (.ref b2), .unset, .unset, .unset, .unset, .unset, .unset, .unset, .unset, .unset, .unset, .unset] [(.int (7 : Int32)), (.int p2), (.int p1), (.long q0), (.int (7 : Int32)), (.ref b2)])) t
    refine st16 _ ?_
    show Steps p.tables e below (T16.setTop (mkF m 97 #[.val (.long q0), .second, .val (.int p1), .val (.int p2), .val (.int p3), .val (.ref b2), .unset, .unset, .unset, .unset, .unset, .unset, .unset, .unset, .unset, .unset, .unset] [(.int (fPick q0 p1 p2 (7 : Int32))), (.int (7 : Int32)), (.ref b2)])) t
    refine st17 _ ?_
    show Steps p.tables e below (T17.setTop (mkF m 98 #[.val (.long q0), .second, .val (.int p1), .val (.int p2), .val (.int p3), .val (.ref b2), .unset, .unset, .unset, .unset, .unset, .unset, .unset, .unset, .unset, .unset, .unset] [])) t
    refine XS.aload X17.here hx rfl (hb hby at_98) rfl rfl ?_
    show Steps p.tables e below (T17.setTop (mkF m 100 #[.val (.long q0), .second, .val (.int p1), .val (.int p2), .val (.int p3), .val (.ref b2), .unset, .unset, .unset, .unset, .unset, .unset, .unset, .unset, .unset, .unset, .unset] [(.ref b2)])) t
    refine XS.bipush X17.here hx rfl (hb hby at_100) ?_
    show Steps p.tables e below (T17.setTop (mkF m 102 #[.val (.long q0), .second, .val (.int p1), .val (.int p2), .val (.int p3), .val (.ref b2), .unset, .unset, .unset, .unset, .unset, .unset, .unset, .unset, .unset, .unset, .unset] [(.int (8 : Int32)), (.ref b2)])) t
    refine XS.lloadN X17.here hx rfl (hb hby at_102) rfl ?_
    show Steps p.tables e below (T17.setTop (mkF m 103 #[.val (.long q0), .second, .val (.int p1), .val (.int p2), .val (.int p3), .val (.ref b2), .unset, .unset, .unset, .unset, .unset, .unset, .unset, .unset, .unset, .unset, .unset] [(.long q0), (.int (8 : Int32)), (.ref b2)])) t
    refine XS.iloadN X17.here hx rfl (hb hby at_103) rfl ?_
    show Steps p.tables e below (T17.setTop (mkF m 104 #[.val (.long q0), .second, .val (.int p1), .val (.int p2), .val (.int p3), .val (.ref b2), .unset, .unset, .unset, .unset, .unset, .unset, .unset, .unset, .unset, .unset, .unset] [(.int p1), (.long q0), (.int (8 : Int32)), (.ref b2)])) t
    refine XS.iloadN X17.here hx rfl (hb hby at_104) rfl ?_
    show Steps p.tables e below (T17.setTop (mkF m 105 #[.val (.long q0), .second, .val (.int p1), .val (.int p2), .val (.int p3), .val (.ref b2), .unset, .unset, .unset, .unset, .unset, .unset, .unset, .unset, .unset, .unset, .unset] [(.int p2), (.int p1), (.long q0), (.int (8 : Int32)), (.ref b2)])) t
    refine XS.bipush X17.here hx rfl (hb hby at_105) ?_
    show Steps p.tables e below (T17.setTop (mkF m 107 #[.val (.long q0), .second, .val (.int p1), .val (.int p2), .val (.int p3), .val (.ref b2), .unset, .unset, .unset, .unset, .unset, .unset, .unset, .unset, .unset, .unset, .unset] [(.int (8 : Int32)), (.int p2), (.int p1), (.long q0), (.int (8 : Int32)), (.ref b2)])) t
    refine st18 _ ?_
    show Steps p.tables e below (T18.setTop (mkF m 110 #[.val (.long q0), .second, .val (.int p1), .val (.int p2), .val (.int p3), .val (.ref b2), .unset, .unset, .unset, .unset, .unset, .unset, .unset, .unset, .unset, .unset, .unset] [(.int (fPick q0 p1 p2 (8 : Int32))), (.int (8 : Int32)), (.ref b2)])) t
    refine st19 _ ?_
    show Steps p.tables e below (T19.setTop (mkF m 111 #[.val (.long q0), .second, .val (.int p1), .val (.int p2), .val (.int p3), .val (.ref b2), .unset, .unset, .unset, .unset, .unset, .unset, .unset, .unset, .unset, .unset, .unset] [])) t
    refine XS.aload X19.here hx rfl (hb hby at_111) rfl rfl ?_
    show Steps p.tables e below (T19.setTop (mkF m 113 #[.val (.long q0), .second, .val (.int p1), .val (.int p2), .val (.int p3), .val (.ref b2), .unset, .unset, .unset, .unset, .unset, .unset, .unset, .unset, .unset, .unset, .unset] [(.ref b2)])) t
    refine XS.bipush X19.here hx rfl (hb hby at_113) ?_
    show Steps p.tables e below (T19.setTop (mkF m 115 #[.val (.long q0), .second, .val (.int p1), .val (.int p2), .val (.int p3), .val (.ref b2), .unset, .unset, .unset, .unset, .unset, .unset, .unset, .unset, .unset, .unset, .unset] [(.int (9 : Int32)), (.ref b2)])) t
    refine XS.lloadN X19.here hx rfl (hb hby at_115) rfl ?_
    show Steps p.tables e below (T19.setTop (mkF m 116 #[.val (.long q0), .second, .val (.int p1), .val (.int p2), .val (.int p3), .val (.ref b2), .unset, .unset, .unset, .unset, .unset, .unset, .unset, .unset, .unset, .unset, .unset] [(.long q0), (.int (9 : Int32)), (.ref b2)])) t
    refine XS.iloadN X19.here hx rfl (hb hby at_116) rfl ?_
    show Steps p.tables e below (T19.setTop (mkF m 117 #[.val (.long q0), .second, .val (.int p1), .val (.int p2), .val (.int p3), .val (.ref b2), .unset, .unset, .unset, .unset, .unset, .unset, .unset, .unset, .unset, .unset, .unset] [(.int p1), (.long q0), (.int (9 : Int32)), (.ref b2)])) t
    refine XS.iloadN X19.here hx rfl (hb hby at_117) rfl ?_
    show Steps p.tables e below (T19.setTop (mkF m 118 #[.val (.long q0), .second, .val (.int p1), .val (.int p2), .val (.int p3), .val (.ref b2), .unset, .unset, .unset, .unset, .unset, .unset, .unset, .unset, .unset, .unset, .unset] [(.int p2), (.int p1), (.long q0), (.int (9 : Int32)), (.ref b2)])) t
    refine XS.bipush X19.here hx rfl (hb hby at_118) ?_
    show Steps p.tables e below (T19.setTop (mkF m 120 #[.val (.long q0), .second, .val (.int p1), .val (.int p2), .val (.int p3), .val (.ref b2), .unset, .unset, .unset, .unset, .unset, .unset, .unset, .unset, .unset, .unset, .unset] [(.int (9 : Int32)), (.int p2), (.int p1), (.long q0), (.int (9 : Int32)), (.ref b2)])) t
    refine st20 _ ?_
    show Steps p.tables e below (T20.setTop (mkF m 123 #[.val (.long q0), .second, .val (.int p1), .val (.int p2), .val (.int p3), .val (.ref b2), .unset, .unset, .unset, .unset, .unset, .unset, .unset, .unset, .unset, .unset, .unset] [(.int (fPick q0 p1 p2 (9 : Int32))), (.int (9 : Int32)), (.ref b2)])) t
    refine st21 _ ?_
    show Steps p.tables e below (T21.setTop (mkF m 124 #[.val (.long q0), .second, .val (.int p1), .val (.int p2), .val (.int p3), .val (.ref b2), .unset, .unset, .unset, .unset, .unset, .unset, .unset, .unset, .unset, .unset, .unset] [])) t
    refine XS.iload X21.here hx rfl (hb hby at_124) rfl ?_
    show Steps p.tables e below (T21.setTop (mkF m 126 #[.val (.long q0), .second, .val (.int p1), .val (.int p2), .val (.int p3), .val (.ref b2), .unset, .unset, .unset, .unset, .unset, .unset, .unset, .unset, .unset, .unset, .unset] [(.int p3)])) t
    refine XS.iconst X21.here hx rfl (hb hby at_126) ?_
    show Steps p.tables e below (T21.setTop (mkF m 127 #[.val (.long q0), .second, .val (.int p1), .val (.int p2), .val (.int p3), .val (.ref b2), .unset, .unset, .unset, .unset, .unset, .unset, .unset, .unset, .unset, .unset, .unset] [(.int (3 : Int32)), (.int p3)])) t
    refine XS.iand X21.here hx rfl (hb hby at_127) rfl ?_
    show Steps p.tables e below (T21.setTop (mkF m 128 #[.val (.long q0), .second, .val (.int p1), .val (.int p2), .val (.int p3), .val (.ref b2), .unset, .unset, .unset, .unset, .unset, .unset, .unset, .unset, .unset, .unset, .unset] [(.int (p3 &&& (3 : Int32)))])) t
    refine XS.istore X21.here hx rfl (hb hby at_128) rfl (l' := #[.val (.long q0), .second, .val (.int p1), .val (.int p2), .val (.int p3), .val (.ref b2), .val (.int (p3 &&& (3 : Int32))), .unset, .unset, .unset, .unset, .unset, .unset, .unset, .unset, .unset, .unset]) rfl ?_
    exact kt
  obtain ⟨v128, hv128, K23⟩ : ∃ v128 : Int32, v128 = (p3 &&& (3 : Int32)) ∧ ∀ t, Steps p.tables e below (T21.setTop (mkF m 130 #[.val (.long q0), .second, .val (.int p1), .val (.int p2), .val (.int p3), .val (.ref b2), .val (.int v128), .unset, .unset, .unset, .unset, .unset, .unset, .unset, .unset, .unset, .unset] [])) t → P0 t := ⟨_, rfl, K22⟩
  have K24 : ∀ t, Steps p.tables e below (T21.setTop (mkF m 145 #[.val (.long q0), .second, .val (.int p1), .val (.int p2), .val (.int p3), .val (.ref b2), .val (.int v128), .val (.int ((((p3.toUInt32 >>> ((2 : Int32) &&& 31).toUInt32).toInt32) &&& (65535 : Int32)) % ((11 : Int32) - v128))), .unset, .unset, .unset, .unset, .unset, .unset, .unset, .unset, .unset] [])) t → P0 t := by
    intro t kt
    refine K23 t ?_
    show Steps p.tables e below (T21.setTop (mkF m 130 #[.val (.long q0), .second, .val (.int p1), .val (.int p2), .val (.int p3), .val (.ref b2), .val (.int v128), .unset, .unset, .unset, .unset, .unset, .unset, .unset, .unset, .unset, .unset] [])) t
    refine XS.iload X21.here hx rfl (hb hby at_130) rfl ?_
    show Steps p.tables e below (T21.setTop (mkF m 132 #[.val (.long q0), .second, .val (.int p1), .val (.int p2), .val (.int p3), .val (.ref b2), .val (.int v128), .unset, .unset, .unset, .unset, .unset, .unset, .unset, .unset, .unset, .unset] [(.int p3)])) t
    refine XS.iconst X21.here hx rfl (hb hby at_132) ?_
    show Steps p.tables e below (T21.setTop (mkF m 133 #[.val (.long q0), .second, .val (.int p1), .val (.int p2), .val (.int p3), .val (.ref b2), .val (.int v128), .unset, .unset, .unset, .unset, .unset, .unset, .unset, .unset, .unset, .unset] [(.int (2 : Int32)), (.int p3)])) t
    refine XS.iushr X21.here hx rfl (hb hby at_133) rfl ?_
    show Steps p.tables e below (T21.setTop (mkF m 134 #[.val (.long q0), .second, .val (.int p1), .val (.int p2), .val (.int p3), .val (.ref b2), .val (.int v128), .unset, .unset, .unset, .unset, .unset, .unset, .unset, .unset, .unset, .unset] [(.int ((p3.toUInt32 >>> ((2 : Int32) &&& 31).toUInt32).toInt32))])) t
    refine X21.ldcInt hx hown (mvT hZ (hw _ (List.mem_of_getElem? (i := 8) rfl))) (g := (mkF m 134 #[.val (.long q0), .second, .val (.int p1), .val (.int p2), .val (.int p3), .val (.ref b2), .val (.int v128), .unset, .unset, .unset, .unset, .unset, .unset, .unset, .unset, .unset, .unset] [(.int ((p3.toUInt32 >>> ((2 : Int32) &&& 31).toUInt32).toInt32))])) rfl (hb hby at_134) _ ?_
    show Steps p.tables e below (T21.setTop (mkF m 136 #[.val (.long q0), .second, .val (.int p1), .val (.int p2), .val (.int p3), .val (.ref b2), .val (.int v128), .unset, .unset, .unset, .unset, .unset, .unset, .unset, .unset, .unset, .unset] [(.int (65535 : Int32)), (.int ((p3.toUInt32 >>> ((2 : Int32) &&& 31).toUInt32).toInt32))])) t
    refine XS.iand X21.here hx rfl (hb hby at_136) rfl ?_
    show Steps p.tables e below (T21.setTop (mkF m 137 #[.val (.long q0), .second, .val (.int p1), .val (.int p2), .val (.int p3), .val (.ref b2), .val (.int v128), .unset, .unset, .unset, .unset, .unset, .unset, .unset, .unset, .unset, .unset] [(.int (((p3.toUInt32 >>> ((2 : Int32) &&& 31).toUInt32).toInt32) &&& (65535 : Int32)))])) t
    refine XS.bipush X21.here hx rfl (hb hby at_137) ?_
    show Steps p.tables e below (T21.setTop (mkF m 139 #[.val (.long q0), .second, .val (.int p1), .val (.int p2), .val (.int p3), .val (.ref b2), .val (.int v128), .unset, .unset, .unset, .unset, .unset, .unset, .unset, .unset, .unset, .unset] [(.int (11 : Int32)), (.int (((p3.toUInt32 >>> ((2 : Int32) &&& 31).toUInt32).toInt32) &&& (65535 : Int32)))])) t
    refine XS.iload X21.here hx rfl (hb hby at_139) rfl ?_
    show Steps p.tables e below (T21.setTop (mkF m 141 #[.val (.long q0), .second, .val (.int p1), .val (.int p2), .val (.int p3), .val (.ref b2), .val (.int v128), .unset, .unset, .unset, .unset, .unset, .unset, .unset, .unset, .unset, .unset] [(.int v128), (.int (11 : Int32)), (.int (((p3.toUInt32 >>> ((2 : Int32) &&& 31).toUInt32).toInt32) &&& (65535 : Int32)))])) t
    refine XS.isub X21.here hx rfl (hb hby at_141) rfl ?_
    show Steps p.tables e below (T21.setTop (mkF m 142 #[.val (.long q0), .second, .val (.int p1), .val (.int p2), .val (.int p3), .val (.ref b2), .val (.int v128), .unset, .unset, .unset, .unset, .unset, .unset, .unset, .unset, .unset, .unset] [(.int ((11 : Int32) - v128)), (.int (((p3.toUInt32 >>> ((2 : Int32) &&& 31).toUInt32).toInt32) &&& (65535 : Int32)))])) t
    refine iremM X21 hx rfl (hb hby at_142) rfl (own_nz11 hv128) ?_
    show Steps p.tables e below (T21.setTop (mkF m 143 #[.val (.long q0), .second, .val (.int p1), .val (.int p2), .val (.int p3), .val (.ref b2), .val (.int v128), .unset, .unset, .unset, .unset, .unset, .unset, .unset, .unset, .unset, .unset] [(.int ((((p3.toUInt32 >>> ((2 : Int32) &&& 31).toUInt32).toInt32) &&& (65535 : Int32)) % ((11 : Int32) - v128)))])) t
    refine XS.istore X21.here hx rfl (hb hby at_143) rfl (l' := #[.val (.long q0), .second, .val (.int p1), .val (.int p2), .val (.int p3), .val (.ref b2), .val (.int v128), .val (.int ((((p3.toUInt32 >>> ((2 : Int32) &&& 31).toUInt32).toInt32) &&& (65535 : Int32)) % ((11 : Int32) - v128))), .unset, .unset, .unset, .unset, .unset, .unset, .unset, .unset, .unset]) rfl ?_
    exact kt
  obtain ⟨v143, hv143, K25⟩ : ∃ v143 : Int32, v143 = ((((p3.toUInt32 >>> ((2 : Int32) &&& 31).toUInt32).toInt32) &&& (65535 : Int32)) % ((11 : Int32) - v128)) ∧ ∀ t, Steps p.tables e below (T21.setTop (mkF m 145 #[.val (.long q0), .second, .val (.int p1), .val (.int p2), .val (.int p3), .val (.ref b2), .val (.int v128), .val (.int v143), .unset, .unset, .unset, .unset, .unset, .unset, .unset, .unset, .unset] [])) t → P0 t := ⟨_, rfl, K24⟩
  obtain ⟨a, ha, ha3⟩ := own_a hv128
  have K26 : ∀ t, Steps p.tables e below (T21.setTop (mkF m 152 #[.val (.long q0), .second, .val (.int p1), .val (.int p2), .val (.int p3), .val (.ref b2), .val (.int v128), .val (.int v143), .val (.int (v128 + v143)), .unset, .unset, .unset, .unset, .unset, .unset, .unset, .unset] [])) t → P0 t := by
    intro t kt
    refine K25 t ?_
    show Steps p.tables e below (T21.setTop (mkF m 145 #[.val (.long q0), .second, .val (.int p1), .val (.int p2), .val (.int p3), .val (.ref b2), .val (.int v128), .val (.int v143), .unset, .unset, .unset, .unset, .unset, .unset, .unset, .unset, .unset] [])) t
    refine XS.iload X21.here hx rfl (hb hby at_145) rfl ?_
    show Steps p.tables e below (T21.setTop (mkF m 147 #[.val (.long q0), .second, .val (.int p1), .val (.int p2), .val (.int p3), .val (.ref b2), .val (.int v128), .val (.int v143), .unset, .unset, .unset, .unset, .unset, .unset, .unset, .unset, .unset] [(.int v128)])) t
    refine XS.iload X21.here hx rfl (hb hby at_147) rfl ?_
    show Steps p.tables e below (T21.setTop (mkF m 149 #[.val (.long q0), .second, .val (.int p1), .val (.int p2), .val (.int p3), .val (.ref b2), .val (.int v128), .val (.int v143), .unset, .unset, .unset, .unset, .unset, .unset, .unset, .unset, .unset] [(.int v143), (.int v128)])) t
    refine XS.iadd X21.here hx rfl (hb hby at_149) rfl ?_
    show Steps p.tables e below (T21.setTop (mkF m 150 #[.val (.long q0), .second, .val (.int p1), .val (.int p2), .val (.int p3), .val (.ref b2), .val (.int v128), .val (.int v143), .unset, .unset, .unset, .unset, .unset, .unset, .unset, .unset, .unset] [(.int (v128 + v143))])) t
    refine XS.istore X21.here hx rfl (hb hby at_150) rfl (l' := #[.val (.long q0), .second, .val (.int p1), .val (.int p2), .val (.int p3), .val (.ref b2), .val (.int v128), .val (.int v143), .val (.int (v128 + v143)), .unset, .unset, .unset, .unset, .unset, .unset, .unset, .unset]) rfl ?_
    exact kt
  obtain ⟨v150, hv150, K27⟩ : ∃ v150 : Int32, v150 = (v128 + v143) ∧ ∀ t, Steps p.tables e below (T21.setTop (mkF m 152 #[.val (.long q0), .second, .val (.int p1), .val (.int p2), .val (.int p3), .val (.ref b2), .val (.int v128), .val (.int v143), .val (.int v150), .unset, .unset, .unset, .unset, .unset, .unset, .unset, .unset] [])) t → P0 t := ⟨_, rfl, K26⟩
  have K28 : ∀ t, Steps p.tables e below (T21.setTop (mkF m 159 #[.val (.long q0), .second, .val (.int p1), .val (.int p2), .val (.int p3), .val (.ref b2), .val (.int v128), .val (.int v143), .val (.int v150), .val (.int (-1 : Int32)), .unset, .unset, .unset, .unset, .unset, .unset, .unset] [(.int (7 : Int32)), (.int v143)])) t → P0 t := by
    intro t kt
    refine K27 t ?_
    show Steps p.tables e below (T21.setTop (mkF m 152 #[.val (.long q0), .second, .val (.int p1), .val (.int p2), .val (.int p3), .val (.ref b2), .val (.int v128), .val (.int v143), .val (.int v150), .unset, .unset, .unset, .unset, .unset, .unset, .unset, .unset] [])) t
    refine XS.iconst X21.here hx rfl (hb hby at_152) ?_
    show Steps p.tables e below (T21.setTop (mkF m 153 #[.val (.long q0), .second, .val (.int p1), .val (.int p2), .val (.int p3), .val (.ref b2), .val (.int v128), .val (.int v143), .val (.int v150), .unset, .unset, .unset, .unset, .unset, .unset, .unset, .unset] [(.int (-1 : Int32))])) t
    refine XS.istore X21.here hx rfl (hb hby at_153) rfl (l' := #[.val (.long q0), .second, .val (.int p1), .val (.int p2), .val (.int p3), .val (.ref b2), .val (.int v128), .val (.int v143), .val (.int v150), .val (.int (-1 : Int32)), .unset, .unset, .unset, .unset, .unset, .unset, .unset]) rfl ?_
    show Steps p.tables e below (T21.setTop (mkF m 155 #[.val (.long q0), .second, .val (.int p1), .val (.int p2), .val (.int p3), .val (.ref b2), .val (.int v128), .val (.int v143), .val (.int v150), .val (.int (-1 : Int32)), .unset, .unset, .unset, .unset, .unset, .unset, .unset] [])) t
    refine XS.iload X21.here hx rfl (hb hby at_155) rfl ?_
    show Steps p.tables e below (T21.setTop (mkF m 157 #[.val (.long q0), .second, .val (.int p1), .val (.int p2), .val (.int p3), .val (.ref b2), .val (.int v128), .val (.int v143), .val (.int v150), .val (.int (-1 : Int32)), .unset, .unset, .unset, .unset, .unset, .unset, .unset] [(.int v143)])) t
    refine XS.bipush X21.here hx rfl (hb hby at_157) ?_
    exact kt
  obtain ⟨j329_9_9, o329_10, o329_11, o329_12, o329_13, o329_14, o329_15, o329_16_7, T79, lc80, hj329_9_9, hoo329_10, hoo329_11, hoo329_12, hoo329_13, hoo329_14, hoo329_15, hoo329_16_7, X81, e82, N83, K84⟩ : ∃ (j329_9_9 : Int32) (o329_10 : Slot) (o329_11 : Slot) (o329_12 : Slot) (o329_13 : Slot) (o329_14 : Slot) (o329_15 : Slot) (o329_16_7 : Slot) (T79 : State) (lc80 : List Loc), j329_9_9 = (if v143 = (7 : Int32) then (if (f123 ((v128 + (4 : Int32))).toNatClampNeg) = (45 : Int32) then (if (fDig (f123 (v128).toNatClampNeg)) < (0 : Int32) then (-1 : Int32) else (if (fDig (f123 ((v128 + (1 : Int32))).toNatClampNeg)) < (0 : Int32) then (-1 : Int32) else (if (fDig (f123 ((v128 + (2 : Int32))).toNatClampNeg)) < (0 : Int32) then (-1 : Int32) else (if (fDig (f123 ((v128 + (3 : Int32))).toNatClampNeg)) < (0 : Int32) then (-1 : Int32) else (if (fDig (f123 ((v128 + (5 : Int32))).toNatClampNeg)) < (0 : Int32) then (-1 : Int32) else (if (fDig (f123 ((v128 + (6 : Int32))).toNatClampNeg)) < (0 : Int32) then (-1 : Int32) else (if (((fDig (f123 ((v128 + (5 : Int32))).toNatClampNeg)) * (10 : Int32)) + (fDig (f123 ((v128 + (6 : Int32))).toNatClampNeg))) < (1 : Int32) then (-1 : Int32) else (if (12 : Int32) < (((fDig (f123 ((v128 + (5 : Int32))).toNatClampNeg)) * (10 : Int32)) + (fDig (f123 ((v128 + (6 : Int32))).toNatClampNeg))) then (-1 : Int32) else ((((((((fDig (f123 (v128).toNatClampNeg)) * (1000 : Int32)) + ((fDig (f123 ((v128 + (1 : Int32))).toNatClampNeg)) * (100 : Int32))) + ((fDig (f123 ((v128 + (2 : Int32))).toNatClampNeg)) * (10 : Int32))) + (fDig (f123 ((v128 + (3 : Int32))).toNatClampNeg))) * (12 : Int32)) + (((fDig (f123 ((v128 + (5 : Int32))).toNatClampNeg)) * (10 : Int32)) + (fDig (f123 ((v128 + (6 : Int32))).toNatClampNeg)))) - (1 : Int32)))))))))) else (-1 : Int32)) else (-1 : Int32)) ∧ One o329_10 ∧ One o329_11 ∧ One o329_12 ∧ One o329_13 ∧ One o329_14 ∧ One o329_15 ∧ One o329_16_7 ∧ Stand p l e room_1 s m #[(.long q0), (.int p1), (.int p2), (.int p3)] below meth c T79 lc80 1 10 ∧ T79.heap = h21 ∧ Fr n0 lc80 ∧ ∀ t, Steps p.tables e below (T79.setTop (mkF m 329 #[.val (.long q0), .second, .val (.int p1), .val (.int p2), .val (.int p3), .val (.ref b2), .val (.int v128), .val (.int v143), .val (.int v150), .val (.int j329_9_9), o329_10, o329_11, o329_12, o329_13, o329_14, o329_15, o329_16_7] [])) t → P0 t := by
    by_cases hc159 : v143 = (7 : Int32)
    · obtain ⟨_, _, ⟨T29, L29, k29, n29⟩, -, X29, ⟨Lc29, hQ29, l29, y29, z29⟩, st29⟩ := Jvm.LawKit.callS X21 hx (y := (⟨"com/example/floatline/floatline/io/DateTextProlepticMonthPinLaw", "dig", "(B)I"⟩ : MethodName)) hown (mvT hZ (hw _ (List.mem_of_getElem? (i := 13) rfl))) (mvT hZ (hw _ (List.mem_of_getElem? (i := 14) rfl))) (mvT hZ (hw _ (List.mem_of_getElem? (i := 3) rfl))) (mvT hZ (hw _ (List.mem_of_getElem? (i := 15) rfl))) (by decide) (backOf (W := 0) (rm_dig l Z a0 hw [] (f123 (v128).toNatClampNeg) h21 n0 Z21 ) hZ (hw _ (List.mem_of_getElem? (i := 15) rfl)) (hw _ (List.mem_of_getElem? (i := 3) rfl)) (by decide) (by decide)) (g := (mkF m 167 #[.val (.long q0), .second, .val (.int p1), .val (.int p2), .val (.int p3), .val (.ref b2), .val (.int v128), .val (.int v143), .val (.int v150), .val (.int (-1 : Int32)), .unset, .unset, .unset, .unset, .unset, .unset, .unset] [(.int (f123 (v128).toNatClampNeg))])) rfl (by rw [hml]; rfl) (argsL := [(.int (f123 (v128).toNatClampNeg))]) (rest := []) (lenOf law_pd1 rfl) rfl (by show 2 * 0 + _ ≤ _; exact Nat.le_of_eq rfl) (hb hby at_167) (fun _ _ => ⟨rfl, e21, (by decide : 1 + 0 ≤ _), (by decide : 10 + 0 ≤ _)⟩)
      dsimp only [Pt.U, Pt.locs, Pt.cells, Pt.slots] at X29 l29 y29 z29 st29 hQ29
      rw [l29, y29, z29] at X29
      obtain ⟨rfl, N29q, e29⟩ := hQ29
      have N29 := Fr.app N21 N29q
      have K30 : ∀ t, Steps p.tables e below (T29.setTop (mkF m 172 #[.val (.long q0), .second, .val (.int p1), .val (.int p2), .val (.int p3), .val (.ref b2), .val (.int v128), .val (.int v143), .val (.int v150), .val (.int (-1 : Int32)), .val (.int (fDig (f123 (v128).toNatClampNeg))), .unset, .unset, .unset, .unset, .unset, .unset] [])) t → P0 t := by
        intro t kt
        refine K28 t ?_
        show Steps p.tables e below (T21.setTop (mkF m 159 #[.val (.long q0), .second, .val (.int p1), .val (.int p2), .val (.int p3), .val (.ref b2), .val (.int v128), .val (.int v143), .val (.int v150), .val (.int (-1 : Int32)), .unset, .unset, .unset, .unset, .unset, .unset, .unset] [(.int (7 : Int32)), (.int v143)])) t
        refine XS.icmpNo X21.here hx rfl (hb hby at_159) rfl (teq hc159).2 ?_
        show Steps p.tables e below (T21.setTop (mkF m 162 #[.val (.long q0), .second, .val (.int p1), .val (.int p2), .val (.int p3), .val (.ref b2), .val (.int v128), .val (.int v143), .val (.int v150), .val (.int (-1 : Int32)), .unset, .unset, .unset, .unset, .unset, .unset, .unset] [])) t
        refine XS.aload X21.here hx rfl (hb hby at_162) rfl rfl ?_
        show Steps p.tables e below (T21.setTop (mkF m 164 #[.val (.long q0), .second, .val (.int p1), .val (.int p2), .val (.int p3), .val (.ref b2), .val (.int v128), .val (.int v143), .val (.int v150), .val (.int (-1 : Int32)), .unset, .unset, .unset, .unset, .unset, .unset, .unset] [(.ref b2)])) t
        refine XS.iload X21.here hx rfl (hb hby at_164) rfl ?_
        show Steps p.tables e below (T21.setTop (mkF m 166 #[.val (.long q0), .second, .val (.int p1), .val (.int p2), .val (.int p3), .val (.ref b2), .val (.int v128), .val (.int v143), .val (.int v150), .val (.int (-1 : Int32)), .unset, .unset, .unset, .unset, .unset, .unset, .unset] [(.int v128), (.ref b2)])) t
        refine ldBA X21 hx hZ e21 V21' (j := v128) (own_pin0 ha ha3) (g := (mkF m 166 #[.val (.long q0), .second, .val (.int p1), .val (.int p2), .val (.int p3), .val (.ref b2), .val (.int v128), .val (.int v143), .val (.int v150), .val (.int (-1 : Int32)), .unset, .unset, .unset, .unset, .unset, .unset, .unset] [(.int v128), (.ref b2)])) rfl rfl (hb hby at_166) _ ?_
        show Steps p.tables e below (T21.setTop (mkF m 167 #[.val (.long q0), .second, .val (.int p1), .val (.int p2), .val (.int p3), .val (.ref b2), .val (.int v128), .val (.int v143), .val (.int v150), .val (.int (-1 : Int32)), .unset, .unset, .unset, .unset, .unset, .unset, .unset] [(.int (f123 (v128).toNatClampNeg))])) t
        refine st29 _ ?_
        show Steps p.tables e below (T29.setTop (mkF m 170 #[.val (.long q0), .second, .val (.int p1), .val (.int p2), .val (.int p3), .val (.ref b2), .val (.int v128), .val (.int v143), .val (.int v150), .val (.int (-1 : Int32)), .unset, .unset, .unset, .unset, .unset, .unset, .unset] [(.int (fDig (f123 (v128).toNatClampNeg)))])) t
        refine XS.istore X29.here hx rfl (hb hby at_170) rfl (l' := #[.val (.long q0), .second, .val (.int p1), .val (.int p2), .val (.int p3), .val (.ref b2), .val (.int v128), .val (.int v143), .val (.int v150), .val (.int (-1 : Int32)), .val (.int (fDig (f123 (v128).toNatClampNeg))), .unset, .unset, .unset, .unset, .unset, .unset]) rfl ?_
        exact kt
      obtain ⟨v170, hv170, K31⟩ : ∃ v170 : Int32, v170 = (fDig (f123 (v128).toNatClampNeg)) ∧ ∀ t, Steps p.tables e below (T29.setTop (mkF m 172 #[.val (.long q0), .second, .val (.int p1), .val (.int p2), .val (.int p3), .val (.ref b2), .val (.int v128), .val (.int v143), .val (.int v150), .val (.int (-1 : Int32)), .val (.int v170), .unset, .unset, .unset, .unset, .unset, .unset] [])) t → P0 t := ⟨_, rfl, K30⟩
      obtain ⟨_, _, ⟨T32, L32, k32, n32⟩, -, X32, ⟨Lc32, hQ32, l32, y32, z32⟩, st32⟩ := Jvm.LawKit.callS X29 hx (y := (⟨"com/example/floatline/floatline/io/DateTextProlepticMonthPinLaw", "dig", "(B)I"⟩ : MethodName)) hown (mvT hZ (hw _ (List.mem_of_getElem? (i := 13) rfl))) (mvT hZ (hw _ (List.mem_of_getElem? (i := 14) rfl))) (mvT hZ (hw _ (List.mem_of_getElem? (i := 3) rfl))) (mvT hZ (hw _ (List.mem_of_getElem? (i := 15) rfl))) (by decide) (backOf (W := 0) (rm_dig l Z a0 hw [] (f123 ((v128 + (1 : Int32))).toNatClampNeg) h21 n0 Z21 ) hZ (hw _ (List.mem_of_getElem? (i := 15) rfl)) (hw _ (List.mem_of_getElem? (i := 3) rfl)) (by decide) (by decide)) (g := (mkF m 179 #[.val (.long q0), .second, .val (.int p1), .val (.int p2), .val (.int p3), .val (.ref b2), .val (.int v128), .val (.int v143), .val (.int v150), .val (.int (-1 : Int32)), .val (.int v170), .unset, .unset, .unset, .unset, .unset, .unset] [(.int (f123 ((v128 + (1 : Int32))).toNatClampNeg))])) rfl (by rw [hml]; rfl) (argsL := [(.int (f123 ((v128 + (1 : Int32))).toNatClampNeg))]) (rest := []) (lenOf law_pd1 rfl) rfl (by show 2 * 0 + _ ≤ _; exact Nat.le_of_eq rfl) (hb hby at_179) (fun _ _ => ⟨rfl, e29, (by decide : 1 + 0 ≤ _), (by decide : 10 + 0 ≤ _)⟩)
      dsimp only [Pt.U, Pt.locs, Pt.cells, Pt.slots] at X32 l32 y32 z32 st32 hQ32
      rw [l32, y32, z32] at X32
      obtain ⟨rfl, N32q, e32⟩ := hQ32
      have N32 := Fr.app N29 N32q
      have K33 : ∀ t, Steps p.tables e below (T32.setTop (mkF m 184 #[.val (.long q0), .second, .val (.int p1), .val (.int p2), .val (.int p3), .val (.ref b2), .val (.int v128), .val (.int v143), .val (.int v150), .val (.int (-1 : Int32)), .val (.int v170), .val (.int (fDig (f123 ((v128 + (1 : Int32))).toNatClampNeg))), .unset, .unset, .unset, .unset, .unset] [])) t → P0 t := by
        intro t kt
        refine K31 t ?_
        show Steps p.tables e below (T29.setTop (mkF m 172 #[.val (.long q0), .second, .val (.int p1), .val (.int p2), .val (.int p3), .val (.ref b2), .val (.int v128), .val (.int v143), .val (.int v150), .val (.int (-1 : Int32)), .val (.int v170), .unset, .unset, .unset, .unset, .unset, .unset] [])) t
        refine XS.aload X29.here hx rfl (hb hby at_172) rfl rfl ?_
        show Steps p.tables e below (T29.setTop (mkF m 174 #[.val (.long q0), .second, .val (.int p1), .val (.int p2), .val (.int p3), .val (.ref b2), .val (.int v128), .val (.int v143), .val (.int v150), .val (.int (-1 : Int32)), .val (.int v170), .unset, .unset, .unset, .unset, .unset, .unset] [(.ref b2)])) t
        refine XS.iload X29.here hx rfl (hb hby at_174) rfl ?_
        show Steps p.tables e below (T29.setTop (mkF m 176 #[.val (.long q0), .second, .val (.int p1), .val (.int p2), .val (.int p3), .val (.ref b2), .val (.int v128), .val (.int v143), .val (.int v150), .val (.int (-1 : Int32)), .val (.int v170), .unset, .unset, .unset, .unset, .unset, .unset] [(.int v128), (.ref b2)])) t
        refine XS.iconst X29.here hx rfl (hb hby at_176) ?_
        show Steps p.tables e below (T29.setTop (mkF m 177 #[.val (.long q0), .second, .val (.int p1), .val (.int p2), .val (.int p3), .val (.ref b2), .val (.int v128), .val (.int v143), .val (.int v150), .val (.int (-1 : Int32)), .val (.int v170), .unset, .unset, .unset, .unset, .unset, .unset] [(.int (1 : Int32)), (.int v128), (.ref b2)])) t
        refine XS.iadd X29.here hx rfl (hb hby at_177) rfl ?_
        show Steps p.tables e below (T29.setTop (mkF m 178 #[.val (.long q0), .second, .val (.int p1), .val (.int p2), .val (.int p3), .val (.ref b2), .val (.int v128), .val (.int v143), .val (.int v150), .val (.int (-1 : Int32)), .val (.int v170), .unset, .unset, .unset, .unset, .unset, .unset] [(.int (v128 + (1 : Int32))), (.ref b2)])) t
        refine ldBA X29 hx hZ e29 V21' (j := (v128 + (1 : Int32))) (own_pin ha ha3 1 (by decide)) (g := (mkF m 178 #[.val (.long q0), .second, .val (.int p1), .val (.int p2), .val (.int p3), .val (.ref b2), .val (.int v128), .val (.int v143), .val (.int v150), .val (.int (-1 : Int32)), .val (.int v170), .unset, .unset, .unset, .unset, .unset, .unset] [(.int (v128 + (1 : Int32))), (.ref b2)])) rfl rfl (hb hby at_178) _ ?_
        show Steps p.tables e below (T29.setTop (mkF m 179 #[.val (.long q0), .second, .val (.int p1), .val (.int p2), .val (.int p3), .val (.ref b2), .val (.int v128), .val (.int v143), .val (.int v150), .val (.int (-1 : Int32)), .val (.int v170), .unset, .unset, .unset, .unset, .unset, .unset] [(.int (f123 ((v128 + (1 : Int32))).toNatClampNeg))])) t
        refine st32 _ ?_
        show Steps p.tables e below (T32.setTop (mkF m 182 #[.val (.long q0), .second, .val (.int p1), .val (.int p2), .val (.int p3), .val (.ref b2), .val (.int v128), .val (.int v143), .val (.int v150), .val (.int (-1 : Int32)), .val (.int v170), .unset, .unset, .unset, .unset, .unset, .unset] [(.int (fDig (f123 ((v128 + (1 : Int32))).toNatClampNeg)))])) t
        refine XS.istore X32.here hx rfl (hb hby at_182) rfl (l' := #[.val (.long q0), .second, .val (.int p1), .val (.int p2), .val (.int p3), .val (.ref b2), .val (.int v128), .val (.int v143), .val (.int v150), .val (.int (-1 : Int32)), .val (.int v170), .val (.int (fDig (f123 ((v128 + (1 : Int32))).toNatClampNeg))), .unset, .unset, .unset, .unset, .unset]) rfl ?_
        exact kt
      obtain ⟨v182, hv182, K34⟩ : ∃ v182 : Int32, v182 = (fDig (f123 ((v128 + (1 : Int32))).toNatClampNeg)) ∧ ∀ t, Steps p.tables e below (T32.setTop (mkF m 184 #[.val (.long q0), .second, .val (.int p1), .val (.int p2), .val (.int p3), .val (.ref b2), .val (.int v128), .val (.int v143), .val (.int v150), .val (.int (-1 : Int32)), .val (.int v170), .val (.int v182), .unset, .unset, .unset, .unset, .unset] [])) t → P0 t := ⟨_, rfl, K33⟩
      obtain ⟨_, _, ⟨T35, L35, k35, n35⟩, -, X35, ⟨Lc35, hQ35, l35, y35, z35⟩, st35⟩ := Jvm.LawKit.callS X32 hx (y := (⟨"com/example/floatline/floatline/io/DateTextProlepticMonthPinLaw", "dig", "(B)I"⟩ : MethodName)) hown (mvT hZ (hw _ (List.mem_of_getElem? (i := 13) rfl))) (mvT hZ (hw _ (List.mem_of_getElem? (i := 14) rfl))) (mvT hZ (hw _ (List.mem_of_getElem? (i := 3) rfl))) (mvT hZ (hw _ (List.mem_of_getElem? (i := 15) rfl))) (by decide) (backOf (W := 0) (rm_dig l Z a0 hw [] (f123 ((v128 + (2 : Int32))).toNatClampNeg) h21 n0 Z21 ) hZ (hw _ (List.mem_of_getElem? (i := 15) rfl)) (hw _ (List.mem_of_getElem? (i := 3) rfl)) (by decide) (by decide)) (g := (mkF m 191 #[.val (.long q0), .second, .val (.int p1), .val (.int p2), .val (.int p3), .val (.ref b2), .val (.int v128), .val (.int v143), .val (.int v150), .val (.int (-1 : Int32)), .val (.int v170), .val (.int v182), .unset, .unset, .unset, .unset, .unset] [(.int (f123 ((v128 + (2 : Int32))).toNatClampNeg))])) rfl (by rw [hml]; rfl) (argsL := [(.int (f123 ((v128 + (2 : Int32))).toNatClampNeg))]) (rest := []) (lenOf law_pd1 rfl) rfl (by show 2 * 0 + _ ≤ _; exact Nat.le_of_eq rfl) (hb hby at_191) (fun _ _ => ⟨rfl, e32, (by decide : 1 + 0 ≤ _), (by decide : 10 + 0 ≤ _)⟩)
      dsimp only [Pt.U, Pt.locs, Pt.cells, Pt.slots] at X35 l35 y35 z35 st35 hQ35
      rw [l35, y35, z35] at X35
      obtain ⟨rfl, N35q, e35⟩ := hQ35
      have N35 := Fr.app N32 N35q
      have K36 : ∀ t, Steps p.tables e below (T35.setTop (mkF m 196 #[.val (.long q0), .second, .val (.int p1), .val (.int p2), .val (.int p3), .val (.ref b2), .val (.int v128), .val (.int v143), .val (.int v150), .val (.int (-1 : Int32)), .val (.int v170), .val (.int v182), .val (.int (fDig (f123 ((v128 + (2 : Int32))).toNatClampNeg))), .unset, .unset, .unset, .unset] [])) t → P0 t := by
        intro t kt
        refine K34 t ?_
        show Steps p.tables e below (T32.setTop (mkF m 184 #[.val (.long q0), .second, .val (.int p1), .val (.int p2), .val (.int p3), .val (.ref b2), .val (.int v128), .val (.int v143), .val (.int v150), .val (.int (-1 : Int32)), .val (.int v170), .val (.int v182), .unset, .unset, .unset, .unset, .unset] [])) t
        refine XS.aload X32.here hx rfl (hb hby at_184) rfl rfl ?_
        show Steps p.tables e below (T32.setTop (mkF m 186 #[.val (.long q0), .second, .val (.int p1), .val (.int p2), .val (.int p3), .val (.ref b2), .val (.int v128), .val (.int v143), .val (.int v150), .val (.int (-1 : Int32)), .val (.int v170), .val (.int v182), .unset, .unset, .unset, .unset, .unset] [(.ref b2)])) t
        refine XS.iload X32.here hx rfl (hb hby at_186) rfl ?_
        show Steps p.tables e below (T32.setTop (mkF m 188 #[.val (.long q0), .second, .val (.int p1), .val (.int p2), .val (.int p3), .val (.ref b2), .val (.int v128), .val (.int v143), .val (.int v150), .val (.int (-1 : Int32)), .val (.int v170), .val (.int v182), .unset, .unset, .unset, .unset, .unset] [(.int v128), (.ref b2)])) t
        refine XS.iconst X32.here hx rfl (hb hby at_188) ?_
        show Steps p.tables e below (T32.setTop (mkF m 189 #[.val (.long q0), .second, .val (.int p1), .val (.int p2), .val (.int p3), .val (.ref b2), .val (.int v128), .val (.int v143), .val (.int v150), .val (.int (-1 : Int32)), .val (.int v170), .val (.int v182), .unset, .unset, .unset, .unset, .unset] [(.int (2 : Int32)), (.int v128), (.ref b2)])) t
        refine XS.iadd X32.here hx rfl (hb hby at_189) rfl ?_
        show Steps p.tables e below (T32.setTop (mkF m 190 #[.val (.long q0), .second, .val (.int p1), .val (.int p2), .val (.int p3), .val (.ref b2), .val (.int v128), .val (.int v143), .val (.int v150), .val (.int (-1 : Int32)), .val (.int v170), .val (.int v182), .unset, .unset, .unset, .unset, .unset] [(.int (v128 + (2 : Int32))), (.ref b2)])) t
        refine ldBA X32 hx hZ e32 V21' (j := (v128 + (2 : Int32))) (own_pin ha ha3 2 (by decide)) (g := (mkF m 190 #[.val (.long q0), .second, .val (.int p1), .val (.int p2), .val (.int p3), .val (.ref b2), .val (.int v128), .val (.int v143), .val (.int v150), .val (.int (-1 : Int32)), .val (.int v170), .val (.int v182), .unset, .unset, .unset, .unset, .unset] [(.int (v128 + (2 : Int32))), (.ref b2)])) rfl rfl (hb hby at_190) _ ?_
        show Steps p.tables e below (T32.setTop (mkF m 191 #[.val (.long q0), .second, .val (.int p1), .val (.int p2), .val (.int p3), .val (.ref b2), .val (.int v128), .val (.int v143), .val (.int v150), .val (.int (-1 : Int32)), .val (.int v170), .val (.int v182), .unset, .unset, .unset, .unset, .unset] [(.int (f123 ((v128 + (2 : Int32))).toNatClampNeg))])) t
        refine st35 _ ?_
        show Steps p.tables e below (T35.setTop (mkF m 194 #[.val (.long q0), .second, .val (.int p1), .val (.int p2), .val (.int p3), .val (.ref b2), .val (.int v128), .val (.int v143), .val (.int v150), .val (.int (-1 : Int32)), .val (.int v170), .val (.int v182), .unset, .unset, .unset, .unset, .unset] [(.int (fDig (f123 ((v128 + (2 : Int32))).toNatClampNeg)))])) t
        refine XS.istore X35.here hx rfl (hb hby at_194) rfl (l' := #[.val (.long q0), .second, .val (.int p1), .val (.int p2), .val (.int p3), .val (.ref b2), .val (.int v128), .val (.int v143), .val (.int v150), .val (.int (-1 : Int32)), .val (.int v170), .val (.int v182), .val (.int (fDig (f123 ((v128 + (2 : Int32))).toNatClampNeg))), .unset, .unset, .unset, .unset]) rfl ?_
        exact kt
      obtain ⟨v194, hv194, K37⟩ : ∃ v194 : Int32, v194 = (fDig (f123 ((v128 + (2 : Int32))).toNatClampNeg)) ∧ ∀ t, Steps p.tables e below (T35.setTop (mkF m 196 #[.val (.long q0), .second, .val (.int p1), .val (.int p2), .val (.int p3), .val (.ref b2), .val (.int v128), .val (.int v143), .val (.int v150), .val (.int (-1 : Int32)), .val (.int v170), .val (.int v182), .val (.int v194), .unset, .unset, .unset, .unset] [])) t → P0 t := ⟨_, rfl, K36⟩
      obtain ⟨_, _, ⟨T38, L38, k38, n38⟩, -, X38, ⟨Lc38, hQ38, l38, y38, z38⟩, st38⟩ := Jvm.LawKit.callS X35 hx (y := (⟨"com/example/floatline/floatline/io/DateTextProlepticMonthPinLaw", "dig", "(B)I"⟩ : MethodName)) hown (mvT hZ (hw _ (List.mem_of_getElem? (i := 13) rfl))) (mvT hZ (hw _ (List.mem_of_getElem? (i := 14) rfl))) (mvT hZ (hw _ (List.mem_of_getElem? (i := 3) rfl))) (mvT hZ (hw _ (List.mem_of_getElem? (i := 15) rfl))) (by decide) (backOf (W := 0) (rm_dig l Z a0 hw [] (f123 ((v128 + (3 : Int32))).toNatClampNeg) h21 n0 Z21 ) hZ (hw _ (List.mem_of_getElem? (i := 15) rfl)) (hw _ (List.mem_of_getElem? (i := 3) rfl)) (by decide) (by decide)) (g := (mkF m 203 #[.val (.long q0), .second, .val (.int p1), .val (.int p2), .val (.int p3), .val (.ref b2), .val (.int v128), .val (.int v143), .val (.int v150), .val (.int (-1 : Int32)), .val (.int v170), .val (.int v182), .val (.int v194), .unset, .unset, .unset, .unset] [(.int (f123 ((v128 + (3 : Int32))).toNatClampNeg))])) rfl (by rw [hml]; rfl) (argsL := [(.int (f123 ((v128 + (3 : Int32))).toNatClampNeg))]) (rest := []) (lenOf law_pd1 rfl) rfl (by show 2 * 0 + _ ≤ _; exact Nat.le_of_eq rfl) (hb hby at_203) (fun _ _ => ⟨rfl, e35, (by decide : 1 + 0 ≤ _), (by decide : 10 + 0 ≤ _)⟩)
      dsimp only [Pt.U, Pt.locs, Pt.cells, Pt.slots] at X38 l38 y38 z38 st38 hQ38
      rw [l38, y38, z38] at X38
      obtain ⟨rfl, N38q, e38⟩ := hQ38
      have N38 := Fr.app N35 N38q
      have K39 : ∀ t, Steps p.tables e below (T38.setTop (mkF m 208 #[.val (.long q0), .second, .val (.int p1), .val (.int p2), .val (.int p3), .val (.ref b2), .val (.int v128), .val (.int v143), .val (.int v150), .val (.int (-1 : Int32)), .val (.int v170), .val (.int v182), .val (.int v194), .val (.int (fDig (f123 ((v128 + (3 : Int32))).toNatClampNeg))), .unset, .unset, .unset] [])) t → P0 t := by
        intro t kt
        refine K37 t ?_
        show Steps p.tables e below (T35.setTop (mkF m 196 #[.val (.long q0), .second, .val (.int p1), .val (.int p2), .val (.int p3), .val (.ref b2), .val (.int v128), .val (.int v143), .val (.int v150), .val (.int (-1 : Int32)), .val (.int v170), .val (.int v182), .val (.int v194), .unset, .unset, .unset, .unset] [])) t
        refine XS.aload X35.here hx rfl (hb hby at_196) rfl rfl ?_
        show Steps p.tables e below (T35.setTop (mkF m 198 #[.val (.long q0), .second, .val (.int p1), .val (.int p2), .val (.int p3), .val (.ref b2), .val (.int v128), .val (.int v143), .val (.int v150), .val (.int (-1 : Int32)), .val (.int v170), .val (.int v182), .val (.int v194), .unset, .unset, .unset, .unset] [(.ref b2)])) t
        refine XS.iload X35.here hx rfl (hb hby at_198) rfl ?_
        show Steps p.tables e below (T35.setTop (mkF m 200 #[.val (.long q0), .second, .val (.int p1), .val (.int p2), .val (.int p3), .val (.ref b2), .val (.int v128), .val (.int v143), .val (.int v150), .val (.int (-1 : Int32)), .val (.int v170), .val (.int v182), .val (.int v194), .unset, .unset, .unset, .unset] [(.int v128), (.ref b2)])) t
        refine XS.iconst X35.here hx rfl (hb hby at_200) ?_
        show Steps p.tables e below (T35.setTop (mkF m 201 #[.val (.long q0), .second, .val (.int p1), .val (.int p2), .val (.int p3), .val (.ref b2), .val (.int v128), .val (.int v143), .val (.int v150), .val (.int (-1 : Int32)), .val (.int v170), .val (.int v182), .val (.int v194), .unset, .unset, .unset, .unset] [(.int (3 : Int32)), (.int v128), (.ref b2)])) t
        refine XS.iadd X35.here hx rfl (hb hby at_201) rfl ?_
        show Steps p.tables e below (T35.setTop (mkF m 202 #[.val (.long q0), .second, .val (.int p1), .val (.int p2), .val (.int p3), .val (.ref b2), .val (.int v128), .val (.int v143), .val (.int v150), .val (.int (-1 : Int32)), .val (.int v170), .val (.int v182), .val (.int v194), .unset, .unset, .unset, .unset] [(.int (v128 + (3 : Int32))), (.ref b2)])) t
        refine ldBA X35 hx hZ e35 V21' (j := (v128 + (3 : Int32))) (own_pin ha ha3 3 (by decide)) (g := (mkF m 202 #[.val (.long q0), .second, .val (.int p1), .val (.int p2), .val (.int p3), .val (.ref b2), .val (.int v128), .val (.int v143), .val (.int v150), .val (.int (-1 : Int32)), .val (.int v170), .val (.int v182), .val (.int v194), .unset, .unset, .unset, .unset] [(.int (v128 + (3 : Int32))), (.ref b2)])) rfl rfl (hb hby at_202) _ ?_
        show Steps p.tables e below (T35.setTop (mkF m 203 #[.val (.long q0), .second, .val (.int p1), .val (.int p2), .val (.int p3), .val (.ref b2), .val (.int v128), .val (.int v143), .val (.int v150), .val (.int (-1 : Int32)), .val (.int v170), .val (.int v182), .val (.int v194), .unset, .unset, .unset, .unset] [(.int (f123 ((v128 + (3 : Int32))).toNatClampNeg))])) t
        refine st38 _ ?_
        show Steps p.tables e below (T38.setTop (mkF m 206 #[.val (.long q0), .second, .val (.int p1), .val (.int p2), .val (.int p3), .val (.ref b2), .val (.int v128), .val (.int v143), .val (.int v150), .val (.int (-1 : Int32)), .val (.int v170), .val (.int v182), .val (.int v194), .unset, .unset, .unset, .unset] [(.int (fDig (f123 ((v128 + (3 : Int32))).toNatClampNeg)))])) t
        refine XS.istore X38.here hx rfl (hb hby at_206) rfl (l' := #[.val (.long q0), .second, .val (.int p1), .val (.int p2), .val (.int p3), .val (.ref b2), .val (.int v128), .val (.int v143), .val (.int v150), .val (.int (-1 : Int32)), .val (.int v170), .val (.int v182), .val (.int v194), .val (.int (fDig (f123 ((v128 + (3 : Int32))).toNatClampNeg))), .unset, .unset, .unset]) rfl ?_
        exact kt
      obtain ⟨v206, hv206, K40⟩ : ∃ v206 : Int32, v206 = (fDig (f123 ((v128 + (3 : Int32))).toNatClampNeg)) ∧ ∀ t, Steps p.tables e below (T38.setTop (mkF m 208 #[.val (.long q0), .second, .val (.int p1), .val (.int p2), .val (.int p3), .val (.ref b2), .val (.int v128), .val (.int v143), .val (.int v150), .val (.int (-1 : Int32)), .val (.int v170), .val (.int v182), .val (.int v194), .val (.int v206), .unset, .unset, .unset] [])) t → P0 t := ⟨_, rfl, K39⟩
      obtain ⟨_, _, ⟨T41, L41, k41, n41⟩, -, X41, ⟨Lc41, hQ41, l41, y41, z41⟩, st41⟩ := Jvm.LawKit.callS X38 hx (y := (⟨"com/example/floatline/floatline/io/DateTextProlepticMonthPinLaw", "dig", "(B)I"⟩ : MethodName)) hown (mvT hZ (hw _ (List.mem_of_getElem? (i := 13) rfl))) (mvT hZ (hw _ (List.mem_of_getElem? (i := 14) rfl))) (mvT hZ (hw _ (List.mem_of_getElem? (i := 3) rfl))) (mvT hZ (hw _ (List.mem_of_getElem? (i := 15) rfl))) (by decide) (backOf (W := 0) (rm_dig l Z a0 hw [] (f123 ((v128 + (5 : Int32))).toNatClampNeg) h21 n0 Z21 ) hZ (hw _ (List.mem_of_getElem? (i := 15) rfl)) (hw _ (List.mem_of_getElem? (i := 3) rfl)) (by decide) (by decide)) (g := (mkF m 215 #[.val (.long q0), .second, .val (.int p1), .val (.int p2), .val (.int p3), .val (.ref b2), .val (.int v128), .val (.int v143), .val (.int v150), .val (.int (-1 : Int32)), .val (.int v170), .val (.int v182), .val (.int v194), .val (.int v206), .unset, .unset, .unset] [(.int (f123 ((v128 + (5 : Int32))).toNatClampNeg))])) rfl (by rw [hml]; rfl) (argsL := [(.int (f123 ((v128 + (5 : Int32))).toNatClampNeg))]) (rest := []) (lenOf law_pd1 rfl) rfl (by show 2 * 0 + _ ≤ _; exact Nat.le_of_eq rfl) (hb hby at_215) (fun _ _ => ⟨rfl, e38, (by decide : 1 + 0 ≤ _), (by decide : 10 + 0 ≤ _)⟩)
      dsimp only [Pt.U, Pt.locs, Pt.cells, Pt.slots] at X41 l41 y41 z41 st41 hQ41
      rw [l41, y41, z41] at X41
      obtain ⟨rfl, N41q, e41⟩ := hQ41
      have N41 := Fr.app N38 N41q
      have K42 : ∀ t, Steps p.tables e below (T41.setTop (mkF m 220 #[.val (.long q0), .second, .val (.int p1), .val (.int p2), .val (.int p3), .val (.ref b2), .val (.int v128), .val (.int v143), .val (.int v150), .val (.int (-1 : Int32)), .val (.int v170), .val (.int v182), .val (.int v194), .val (.int v206), .val (.int (fDig (f123 ((v128 + (5 : Int32))).toNatClampNeg))), .unset, .unset] [])) t → P0 t := by
        intro t kt
        refine K40 t ?_
        show Steps p.tables e below (T38.setTop (mkF m 208 #[.val (.long q0), .second, .val (.int p1), .val (.int p2), .val (.int p3), .val (.ref b2), .val (.int v128), .val (.int v143), .val (.int v150), .val (.int (-1 : Int32)), .val (.int v170), .val (.int v182), .val (.int v194), .val (.int v206), .unset, .unset, .unset] [])) t
        refine XS.aload X38.here hx rfl (hb hby at_208) rfl rfl ?_
        show Steps p.tables e below (T38.setTop (mkF m 210 #[.val (.long q0), .second, .val (.int p1), .val (.int p2), .val (.int p3), .val (.ref b2), .val (.int v128), .val (.int v143), .val (.int v150), .val (.int (-1 : Int32)), .val (.int v170), .val (.int v182), .val (.int v194), .val (.int v206), .unset, .unset, .unset] [(.ref b2)])) t
        refine XS.iload X38.here hx rfl (hb hby at_210) rfl ?_
        show Steps p.tables e below (T38.setTop (mkF m 212 #[.val (.long q0), .second, .val (.int p1), .val (.int p2), .val (.int p3), .val (.ref b2), .val (.int v128), .val (.int v143), .val (.int v150), .val (.int (-1 : Int32)), .val (.int v170), .val (.int v182), .val (.int v194), .val (.int v206), .unset, .unset, .unset] [(.int v128), (.ref b2)])) t
        refine XS.iconst X38.here hx rfl (hb hby at_212) ?_
        show Steps p.tables e below (T38.setTop (mkF m 213 #[.val (.long q0), .second, .val (.int p1), .val (.int p2), .val (.int p3), .val (.ref b2), .val (.int v128), .val (.int v143), .val (.int v150), .val (.int (-1 : Int32)), .val (.int v170), .val (.int v182), .val (.int v194), .val (.int v206), .unset, .unset, .unset] [(.int (5 : Int32)), (.int v128), (.ref b2)])) t
        refine XS.iadd X38.here hx rfl (hb hby at_213) rfl ?_
        show Steps p.tables e below (T38.setTop (mkF m 214 #[.val (.long q0), .second, .val (.int p1), .val (.int p2), .val (.int p3), .val (.ref b2), .val (.int v128), .val (.int v143), .val (.int v150), .val (.int (-1 : Int32)), .val (.int v170), .val (.int v182), .val (.int v194), .val (.int v206), .unset, .unset, .unset] [(.int (v128 + (5 : Int32))), (.ref b2)])) t
        refine ldBA X38 hx hZ e38 V21' (j := (v128 + (5 : Int32))) (own_pin ha ha3 5 (by decide)) (g := (mkF m 214 #[.val (.long q0), .second, .val (.int p1), .val (.int p2), .val (.int p3), .val (.ref b2), .val (.int v128), .val (.int v143), .val (.int v150), .val (.int (-1 : Int32)), .val (.int v170), .val (.int v182), .val (.int v194), .val (.int v206), .unset, .unset, .unset] [(.int (v128 + (5 : Int32))), (.ref b2)])) rfl rfl (hb hby at_214) _ ?_
        show Steps p.tables e below (T38.setTop (mkF m 215 #[.val (.long q0), .second, .val (.int p1), .val (.int p2), .val (.int p3), .val (.ref b2), .val (.int v128), .val (.int v143), .val (.int v150), .val (.int (-1 : Int32)), .val (.int v170), .val (.int v182), .val (.int v194), .val (.int v206), .unset, .unset, .unset] [(.int (f123 ((v128 + (5 : Int32))).toNatClampNeg))])) t
        refine st41 _ ?_
        show Steps p.tables e below (T41.setTop (mkF m 218 #[.val (.long q0), .second, .val (.int p1), .val (.int p2), .val (.int p3), .val (.ref b2), .val (.int v128), .val (.int v143), .val (.int v150), .val (.int (-1 : Int32)), .val (.int v170), .val (.int v182), .val (.int v194), .val (.int v206), .unset, .unset, .unset] [(.int (fDig (f123 ((v128 + (5 : Int32))).toNatClampNeg)))])) t
        refine XS.istore X41.here hx rfl (hb hby at_218) rfl (l' := #[.val (.long q0), .second, .val (.int p1), .val (.int p2), .val (.int p3), .val (.ref b2), .val (.int v128), .val (.int v143), .val (.int v150), .val (.int (-1 : Int32)), .val (.int v170), .val (.int v182), .val (.int v194), .val (.int v206), .val (.int (fDig (f123 ((v128 + (5 : Int32))).toNatClampNeg))), .unset, .unset]) rfl ?_
        exact kt
      obtain ⟨v218, hv218, K43⟩ : ∃ v218 : Int32, v218 = (fDig (f123 ((v128 + (5 : Int32))).toNatClampNeg)) ∧ ∀ t, Steps p.tables e below (T41.setTop (mkF m 220 #[.val (.long q0), .second, .val (.int p1), .val (.int p2), .val (.int p3), .val (.ref b2), .val (.int v128), .val (.int v143), .val (.int v150), .val (.int (-1 : Int32)), .val (.int v170), .val (.int v182), .val (.int v194), .val (.int v206), .val (.int v218), .unset, .unset] [])) t → P0 t := ⟨_, rfl, K42⟩
      obtain ⟨_, _, ⟨T44, L44, k44, n44⟩, -, X44, ⟨Lc44, hQ44, l44, y44, z44⟩, st44⟩ := Jvm.LawKit.callS X41 hx (y := (⟨"com/example/floatline/floatline/io/DateTextProlepticMonthPinLaw", "dig", "(B)I"⟩ : MethodName)) hown (mvT hZ (hw _ (List.mem_of_getElem? (i := 13) rfl))) (mvT hZ (hw _ (List.mem_of_getElem? (i := 14) rfl))) (mvT hZ (hw _ (List.mem_of_getElem? (i := 3) rfl))) (mvT hZ (hw _ (List.mem_of_getElem? (i := 15) rfl))) (by decide) (backOf (W := 0) (rm_dig l Z a0 hw [] (f123 ((v128 + (6 : Int32))).toNatClampNeg) h21 n0 Z21 ) hZ (hw _ (List.mem_of_getElem? (i := 15) rfl)) (hw _ (List.mem_of_getElem? (i := 3) rfl)) (by decide) (by decide)) (g := (mkF m 228 #[.val (.long q0), .second, .val (.int p1), .val (.int p2), .val (.int p3), .val (.ref b2), .val (.int v128), .val (.int v143), .val (.int v150), .val (.int (-1 : Int32)), .val (.int v170), .val (.int v182), .val (.int v194), .val (.int v206), .val (.int v218), .unset, .unset] [(.int (f123 ((v128 + (6 : Int32))).toNatClampNeg))])) rfl (by rw [hml]; rfl) (argsL := [(.int (f123 ((v128 + (6 : Int32))).toNatClampNeg))]) (rest := []) (lenOf law_pd1 rfl) rfl (by show 2 * 0 + _ ≤ _; exact Nat.le_of_eq rfl) (hb hby at_228) (fun _ _ => ⟨rfl, e41, (by decide : 1 + 0 ≤ _), (by decide : 10 + 0 ≤ _)⟩)
      dsimp only [Pt.U, Pt.locs, Pt.cells, Pt.slots] at X44 l44 y44 z44 st44 hQ44
      rw [l44, y44, z44] at X44
      obtain ⟨rfl, N44q, e44⟩ := hQ44
      have N44 := Fr.app N41 N44q
      have K45 : ∀ t, Steps p.tables e below (T44.setTop (mkF m 233 #[.val (.long q0), .second, .val (.int p1), .val (.int p2), .val (.int p3), .val (.ref b2), .val (.int v128), .val (.int v143), .val (.int v150), .val (.int (-1 : Int32)), .val (.int v170), .val (.int v182), .val (.int v194), .val (.int v206), .val (.int v218), .val (.int (fDig (f123 ((v128 + (6 : Int32))).toNatClampNeg))), .unset] [])) t → P0 t := by
        intro t kt
        refine K43 t ?_
        show Steps p.tables e below (T41.setTop (mkF m 220 #[.val (.long q0), .second, .val (.int p1), .val (.int p2), .val (.int p3), .val (.ref b2), .val (.int v128), .val (.int v143), .val (.int v150), .val (.int (-1 : Int32)), .val (.int v170), .val (.int v182), .val (.int v194), .val (.int v206), .val (.int v218), .unset, .unset] [])) t
        refine XS.aload X41.here hx rfl (hb hby at_220) rfl rfl ?_
        show Steps p.tables e below (T41.setTop (mkF m 222 #[.val (.long q0), .second, .val (.int p1), .val (.int p2), .val (.int p3), .val (.ref b2), .val (.int v128), .val (.int v143), .val (.int v150), .val (.int (-1 : Int32)), .val (.int v170), .val (.int v182), .val (.int v194), .val (.int v206), .val (.int v218), .unset, .unset] [(.ref b2)])) t
        refine XS.iload X41.here hx rfl (hb hby at_222) rfl ?_
        show Steps p.tables e below (T41.setTop (mkF m 224 #[.val (.long q0), .second, .val (.int p1), .val (.int p2), .val (.int p3), .val (.ref b2), .val (.int v128), .val (.int v143), .val (.int v150), .val (.int (-1 : Int32)), .val (.int v170), .val (.int v182), .val (.int v194), .val (.int v206), .val (.int v218), .unset, .unset] [(.int v128), (.ref b2)])) t
        refine XS.bipush X41.here hx rfl (hb hby at_224) ?_
        show Steps p.tables e below (T41.setTop (mkF m 226 #[.val (.long q0), .second, .val (.int p1), .val (.int p2), .val (.int p3), .val (.ref b2), .val (.int v128), .val (.int v143), .val (.int v150), .val (.int (-1 : Int32)), .val (.int v170), .val (.int v182), .val (.int v194), .val (.int v206), .val (.int v218), .unset, .unset] [(.int (6 : Int32)), (.int v128), (.ref b2)])) t
        refine XS.iadd X41.here hx rfl (hb hby at_226) rfl ?_
        show Steps p.tables e below (T41.setTop (mkF m 227 #[.val (.long q0), .second, .val (.int p1), .val (.int p2), .val (.int p3), .val (.ref b2), .val (.int v128), .val (.int v143), .val (.int v150), .val (.int (-1 : Int32)), .val (.int v170), .val (.int v182), .val (.int v194), .val (.int v206), .val (.int v218), .unset, .unset] [(.int (v128 + (6 : Int32))), (.ref b2)])) t
        refine ldBA X41 hx hZ e41 V21' (j := (v128 + (6 : Int32))) (own_pin ha ha3 6 (by decide)) (g := (mkF m 227 #[.val (.long q0), .second, .val (.int p1), .val (.int p2), .val (.int p3), .val (.ref b2), .val (.int v128), .val (.int v143), .val (.int v150), .val (.int (-1 : Int32)), .val (.int v170), .val (.int v182), .val (.int v194), .val (.int v206), .val (.int v218), .unset, .unset] [(.int (v128 + (6 : Int32))), (.ref b2)])) rfl rfl (hb hby at_227) _ ?_
        show Steps p.tables e below (T41.setTop (mkF m 228 #[.val (.long q0), .second, .val (.int p1), .val (.int p2), .val (.int p3), .val (.ref b2), .val (.int v128), .val (.int v143), .val (.int v150), .val (.int (-1 : Int32)), .val (.int v170), .val (.int v182), .val (.int v194), .val (.int v206), .val (.int v218), .unset, .unset] [(.int (f123 ((v128 + (6 : Int32))).toNatClampNeg))])) t
        refine st44 _ ?_
        show Steps p.tables e below (T44.setTop (mkF m 231 #[.val (.long q0), .second, .val (.int p1), .val (.int p2), .val (.int p3), .val (.ref b2), .val (.int v128), .val (.int v143), .val (.int v150), .val (.int (-1 : Int32)), .val (.int v170), .val (.int v182), .val (.int v194), .val (.int v206), .val (.int v218), .unset, .unset] [(.int (fDig (f123 ((v128 + (6 : Int32))).toNatClampNeg)))])) t
        refine XS.istore X44.here hx rfl (hb hby at_231) rfl (l' := #[.val (.long q0), .second, .val (.int p1), .val (.int p2), .val (.int p3), .val (.ref b2), .val (.int v128), .val (.int v143), .val (.int v150), .val (.int (-1 : Int32)), .val (.int v170), .val (.int v182), .val (.int v194), .val (.int v206), .val (.int v218), .val (.int (fDig (f123 ((v128 + (6 : Int32))).toNatClampNeg))), .unset]) rfl ?_
        exact kt
      obtain ⟨v231, hv231, K46⟩ : ∃ v231 : Int32, v231 = (fDig (f123 ((v128 + (6 : Int32))).toNatClampNeg)) ∧ ∀ t, Steps p.tables e below (T44.setTop (mkF m 233 #[.val (.long q0), .second, .val (.int p1), .val (.int p2), .val (.int p3), .val (.ref b2), .val (.int v128), .val (.int v143), .val (.int v150), .val (.int (-1 : Int32)), .val (.int v170), .val (.int v182), .val (.int v194), .val (.int v206), .val (.int v218), .val (.int v231), .unset] [])) t → P0 t := ⟨_, rfl, K45⟩
      have K47 : ∀ t, Steps p.tables e below (T44.setTop (mkF m 242 #[.val (.long q0), .second, .val (.int p1), .val (.int p2), .val (.int p3), .val (.ref b2), .val (.int v128), .val (.int v143), .val (.int v150), .val (.int (-1 : Int32)), .val (.int v170), .val (.int v182), .val (.int v194), .val (.int v206), .val (.int v218), .val (.int v231), .unset] [(.int (45 : Int32)), (.int (f123 ((v128 + (4 : Int32))).toNatClampNeg))])) t → P0 t := by
        intro t kt
        refine K46 t ?_
        show Steps p.tables e below (T44.setTop (mkF m 233 #[.val (.long q0), .second, .val (.int p1), .val (.int p2), .val (.int p3), .val (.ref b2), .val (.int v128), .val (.int v143), .val (.int v150), .val (.int (-1 : Int32)), .val (.int v170), .val (.int v182), .val (.int v194), .val (.int v206), .val (.int v218), .val (.int v231), .unset] [])) t
        refine XS.aload X44.here hx rfl (hb hby at_233) rfl rfl ?_
        show Steps p.tables e below (T44.setTop (mkF m 235 #[.val (.long q0), .second, .val (.int p1), .val (.int p2), .val (.int p3), .val (.ref b2), .val (.int v128), .val (.int v143), .val (.int v150), .val (.int (-1 : Int32)), .val (.int v170), .val (.int v182), .val (.int v194), .val (.int v206), .val (.int v218), .val (.int v231), .unset] [(.ref b2)])) t
        refine XS.iload X44.here hx rfl (hb hby at_235) rfl ?_
        show Steps p.tables e below (T44.setTop (mkF m 237 #[.val (.long q0), .second, .val (.int p1), .val (.int p2), .val (.int p3), .val (.ref b2), .val (.int v128), .val (.int v143), .val (.int v150), .val (.int (-1 : Int32)), .val (.int v170), .val (.int v182), .val (.int v194), .val (.int v206), .val (.int v218), .val (.int v231), .unset] [(.int v128), (.ref b2)])) t
        refine XS.iconst X44.here hx rfl (hb hby at_237) ?_
        show Steps p.tables e below (T44.setTop (mkF m 238 #[.val (.long q0), .second, .val (.int p1), .val (.int p2), .val (.int p3), .val (.ref b2), .val (.int v128), .val (.int v143), .val (.int v150), .val (.int (-1 : Int32)), .val (.int v170), .val (.int v182), .val (.int v194), .val (.int v206), .val (.int v218), .val (.int v231), .unset] [(.int (4 : Int32)), (.int v128), (.ref b2)])) t
        refine XS.iadd X44.here hx rfl (hb hby at_238) rfl ?_
        show Steps p.tables e below (T44.setTop (mkF m 239 #[.val (.long q0), .second, .val (.int p1), .val (.int p2), .val (.int p3), .val (.ref b2), .val (.int v128), .val (.int v143), .val (.int v150), .val (.int (-1 : Int32)), .val (.int v170), .val (.int v182), .val (.int v194), .val (.int v206), .val (.int v218), .val (.int v231), .unset] [(.int (v128 + (4 : Int32))), (.ref b2)])) t
        refine ldBA X44 hx hZ e44 V21' (j := (v128 + (4 : Int32))) (own_pin ha ha3 4 (by decide)) (g := (mkF m 239 #[.val (.long q0), .second, .val (.int p1), .val (.int p2), .val (.int p3), .val (.ref b2), .val (.int v128), .val (.int v143), .val (.int v150), .val (.int (-1 : Int32)), .val (.int v170), .val (.int v182), .val (.int v194), .val (.int v206), .val (.int v218), .val (.int v231), .unset] [(.int (v128 + (4 : Int32))), (.ref b2)])) rfl rfl (hb hby at_239) _ ?_
        show Steps p.tables e below (T44.setTop (mkF m 240 #[.val (.long q0), .second, .val (.int p1), .val (.int p2), .val (.int p3), .val (.ref b2), .val (.int v128), .val (.int v143), .val (.int v150), .val (.int (-1 : Int32)), .val (.int v170), .val (.int v182), .val (.int v194), .val (.int v206), .val (.int v218), .val (.int v231), .unset] [(.int (f123 ((v128 + (4 : Int32))).toNatClampNeg))])) t
        refine XS.bipush X44.here hx rfl (hb hby at_240) ?_
        exact kt
      obtain ⟨j329_9_8, o329_16_6, hj329_9_8, hoo329_16_6, K77⟩ : ∃ (j329_9_8 : Int32) (o329_16_6 : Slot), j329_9_8 = (if (f123 ((v128 + (4 : Int32))).toNatClampNeg) = (45 : Int32) then (if v170 < (0 : Int32) then (-1 : Int32) else (if v182 < (0 : Int32) then (-1 : Int32) else (if v194 < (0 : Int32) then (-1 : Int32) else (if v206 < (0 : Int32) then (-1 : Int32) else (if v218 < (0 : Int32) then (-1 : Int32) else (if v231 < (0 : Int32) then (-1 : Int32) else (if ((v218 * (10 : Int32)) + v231) < (1 : Int32) then (-1 : Int32) else (if (12 : Int32) < ((v218 * (10 : Int32)) + v231) then (-1 : Int32) else (((((((v170 * (1000 : Int32)) + (v182 * (100 : Int32))) + (v194 * (10 : Int32))) + v206) * (12 : Int32)) + ((v218 * (10 : Int32)) + v231)) - (1 : Int32)))))))))) else (-1 : Int32)) ∧ One o329_16_6 ∧ ∀ t, Steps p.tables e below (T44.setTop (mkF m 329 #[.val (.long q0), .second, .val (.int p1), .val (.int p2), .val (.int p3), .val (.ref b2), .val (.int v128), .val (.int v143), .val (.int v150), .val (.int j329_9_8), .val (.int v170), .val (.int v182), .val (.int v194), .val (.int v206), .val (.int v218), .val (.int v231), o329_16_6] [])) t → P0 t := by
        by_cases hc242 : (f123 ((v128 + (4 : Int32))).toNatClampNeg) = (45 : Int32)
        · have K48 : ∀ t, Steps p.tables e below (T44.setTop (mkF m 247 #[.val (.long q0), .second, .val (.int p1), .val (.int p2), .val (.int p3), .val (.ref b2), .val (.int v128), .val (.int v143), .val (.int v150), .val (.int (-1 : Int32)), .val (.int v170), .val (.int v182), .val (.int v194), .val (.int v206), .val (.int v218), .val (.int v231), .unset] [(.int v170)])) t → P0 t := by
            intro t kt
            refine K47 t ?_
            show Steps p.tables e below (T44.setTop (mkF m 242 #[.val (.long q0), .second, .val (.int p1), .val (.int p2), .val (.int p3), .val (.ref b2), .val (.int v128), .val (.int v143), .val (.int v150), .val (.int (-1 : Int32)), .val (.int v170), .val (.int v182), .val (.int v194), .val (.int v206), .val (.int v218), .val (.int v231), .unset] [(.int (45 : Int32)), (.int (f123 ((v128 + (4 : Int32))).toNatClampNeg))])) t
            refine XS.icmpNo X44.here hx rfl (hb hby at_242) rfl (teq hc242).2 ?_
            show Steps p.tables e below (T44.setTop (mkF m 245 #[.val (.long q0), .second, .val (.int p1), .val (.int p2), .val (.int p3), .val (.ref b2), .val (.int v128), .val (.int v143), .val (.int v150), .val (.int (-1 : Int32)), .val (.int v170), .val (.int v182), .val (.int v194), .val (.int v206), .val (.int v218), .val (.int v231), .unset] [])) t
            refine XS.iload X44.here hx rfl (hb hby at_245) rfl ?_
            exact kt
          obtain ⟨j329_9_7, o329_16_5, hj329_9_7, hoo329_16_5, K75⟩ : ∃ (j329_9_7 : Int32) (o329_16_5 : Slot), j329_9_7 = (if v170 < (0 : Int32) then (-1 : Int32) else (if v182 < (0 : Int32) then (-1 : Int32) else (if v194 < (0 : Int32) then (-1 : Int32) else (if v206 < (0 : Int32) then (-1 : Int32) else (if v218 < (0 : Int32) then (-1 : Int32) else (if v231 < (0 : Int32) then (-1 : Int32) else (if ((v218 * (10 : Int32)) + v231) < (1 : Int32) then (-1 : Int32) else (if (12 : Int32) < ((v218 * (10 : Int32)) + v231) then (-1 : Int32) else (((((((v170 * (1000 : Int32)) + (v182 * (100 : Int32))) + (v194 * (10 : Int32))) + v206) * (12 : Int32)) + ((v218 * (10 : Int32)) + v231)) - (1 : Int32)))))))))) ∧ One o329_16_5 ∧ ∀ t, Steps p.tables e below (T44.setTop (mkF m 329 #[.val (.long q0), .second, .val (.int p1), .val (.int p2), .val (.int p3), .val (.ref b2), .val (.int v128), .val (.int v143), .val (.int v150), .val (.int j329_9_7), .val (.int v170), .val (.int v182), .val (.int v194), .val (.int v206), .val (.int v218), .val (.int v231), o329_16_5] [])) t → P0 t := by
            by_cases hc247 : v170 < (0 : Int32)
            · have K49 : ∀ t, Steps p.tables e below (T44.setTop (mkF m 329 #[.val (.long q0), .second, .val (.int p1), .val (.int p2), .val (.int p3), .val (.ref b2), .val (.int v128), .val (.int v143), .val (.int v150), .val (.int (-1 : Int32)), .val (.int v170), .val (.int v182), .val (.int v194), .val (.int v206), .val (.int v218), .val (.int v231), .unset] [])) t → P0 t := by
                intro t kt
                refine K48 t ?_
                show Steps p.tables e below (T44.setTop (mkF m 247 #[.val (.long q0), .second, .val (.int p1), .val (.int p2), .val (.int p3), .val (.ref b2), .val (.int v128), .val (.int v143), .val (.int v150), .val (.int (-1 : Int32)), .val (.int v170), .val (.int v182), .val (.int v194), .val (.int v206), .val (.int v218), .val (.int v231), .unset] [(.int v170)])) t
                refine XS.ifYes X44.here hx rfl (pc0 := 247) (pc' := 329) rfl (hb hby at_247) rfl ((if0 _ _).trans (tlt hc247).1) (by decide) (by decide) ?_
                exact kt
              exact ⟨_, .unset, (if_pos hc247).symm, One.u, K49⟩
            · have K50 : ∀ t, Steps p.tables e below (T44.setTop (mkF m 252 #[.val (.long q0), .second, .val (.int p1), .val (.int p2), .val (.int p3), .val (.ref b2), .val (.int v128), .val (.int v143), .val (.int v150), .val (.int (-1 : Int32)), .val (.int v170), .val (.int v182), .val (.int v194), .val (.int v206), .val (.int v218), .val (.int v231), .unset] [(.int v182)])) t → P0 t := by
                intro t kt
                refine K48 t ?_
                show Steps p.tables e below (T44.setTop (mkF m 247 #[.val (.long q0), .second, .val (.int p1), .val (.int p2), .val (.int p3), .val (.ref b2), .val (.int v128), .val (.int v143), .val (.int v150), .val (.int (-1 : Int32)), .val (.int v170), .val (.int v182), .val (.int v194), .val (.int v206), .val (.int v218), .val (.int v231), .unset] [(.int v170)])) t
                refine XS.ifNo X44.here hx rfl (hb hby at_247) rfl ((if0 _ _).trans (flt hc247).1) ?_
                show Steps p.tables e below (T44.setTop (mkF m 250 #[.val (.long q0), .second, .val (.int p1), .val (.int p2), .val (.int p3), .val (.ref b2), .val (.int v128), .val (.int v143), .val (.int v150), .val (.int (-1 : Int32)), .val (.int v170), .val (.int v182), .val (.int v194), .val (.int v206), .val (.int v218), .val (.int v231), .unset] [])) t
                refine XS.iload X44.here hx rfl (hb hby at_250) rfl ?_
                exact kt
              obtain ⟨j329_9_6, o329_16_4, hj329_9_6, hoo329_16_4, K74⟩ : ∃ (j329_9_6 : Int32) (o329_16_4 : Slot), j329_9_6 = (if v182 < (0 : Int32) then (-1 : Int32) else (if v194 < (0 : Int32) then (-1 : Int32) else (if v206 < (0 : Int32) then (-1 : Int32) else (if v218 < (0 : Int32) then (-1 : Int32) else (if v231 < (0 : Int32) then (-1 : Int32) else (if ((v218 * (10 : Int32)) + v231) < (1 : Int32) then (-1 : Int32) else (if (12 : Int32) < ((v218 * (10 : Int32)) + v231) then (-1 : Int32) else (((((((v170 * (1000 : Int32)) + (v182 * (100 : Int32))) + (v194 * (10 : Int32))) + v206) * (12 : Int32)) + ((v218 * (10 : Int32)) + v231)) - (1 : Int32))))))))) ∧ One o329_16_4 ∧ ∀ t, Steps p.tables e below (T44.setTop (mkF m 329 #[.val (.long q0), .second, .val (.int p1), .val (.int p2), .val (.int p3), .val (.ref b2), .val (.int v128), .val (.int v143), .val (.int v150), .val (.int j329_9_6), .val (.int v170), .val (.int v182), .val (.int v194), .val (.int v206), .val (.int v218), .val (.int v231), o329_16_4] [])) t → P0 t := by
                by_cases hc252 : v182 < (0 : Int32)
                · have K51 : ∀ t, Steps p.tables e below (T44.setTop (mkF m 329 #[.val (.long q0), .second, .val (.int p1), .val (.int p2), .val (.int p3), .val (.ref b2), .val (.int v128), .val (.int v143), .val (.int v150), .val (.int (-1 : Int32)), .val (.int v170), .val (.int v182), .val (.int v194), .val (.int v206), .val (.int v218), .val (.int v231), .unset] [])) t → P0 t := by
                    intro t kt
                    refine K50 t ?_
                    show Steps p.tables e below (T44.setTop (mkF m 252 #[.val (.long q0), .second, .val (.int p1), .val (.int p2), .val (.int p3), .val (.ref b2), .val (.int v128), .val (.int v143), .val (.int v150), .val (.int (-1 : Int32)), .val (.int v170), .val (.int v182), .val (.int v194), .val (.int v206), .val (.int v218), .val (.int v231), .unset] [(.int v182)])) t
                    refine XS.ifYes X44.here hx rfl (pc0 := 252) (pc' := 329) rfl (hb hby at_252) rfl ((if0 _ _).trans (tlt hc252).1) (by decide) (by decide) ?_
                    exact kt
                  exact ⟨_, .unset, (if_pos hc252).symm, One.u, K51⟩
                · have K52 : ∀ t, Steps p.tables e below (T44.setTop (mkF m 257 #[.val (.long q0), .second, .val (.int p1), .val (.int p2), .val (.int p3), .val (.ref b2), .val (.int v128), .val (.int v143), .val (.int v150), .val (.int (-1 : Int32)), .val (.int v170), .val (.int v182), .val (.int v194), .val (.int v206), .val (.int v218), .val (.int v231), .unset] [(.int v194)])) t → P0 t := by
                    intro t kt
                    refine K50 t ?_
                    show Steps p.tables e below (T44.setTop (mkF m 252 #[.val (.long q0), .second, .val (.int p1), .val (.int p2), .val (.int p3), .val (.ref b2), .val (.int v128), .val (.int v143), .val (.int v150), .val (.int (-1 : Int32)), .val (.int v170), .val (.int v182), .val (.int v194), .val (.int v206), .val (.int v218), .val (.int v231), .unset] [(.int v182)])) t
                    refine XS.ifNo X44.here hx rfl (hb hby at_252) rfl ((if0 _ _).trans (flt hc252).1) ?_
                    show Steps p.tables e below (T44.setTop (mkF m 255 #[.val (.long q0), .second, .val (.int p1), .val (.int p2), .val (.int p3), .val (.ref b2), .val (.int v128), .val (.int v143), .val (.int v150), .val (.int (-1 : Int32)), .val (.int v170), .val (.int v182), .val (.int v194), .val (.int v206), .val (.int v218), .val (.int v231), .unset] [])) t
                    refine XS.iload X44.here hx rfl (hb hby at_255) rfl ?_
                    exact kt
                  obtain ⟨j329_9_5, o329_16_3, hj329_9_5, hoo329_16_3, K73⟩ : ∃ (j329_9_5 : Int32) (o329_16_3 : Slot), j329_9_5 = (if v194 < (0 : Int32) then (-1 : Int32) else (if v206 < (0 : Int32) then (-1 : Int32) else (if v218 < (0 : Int32) then (-1 : Int32) else (if v231 < (0 : Int32) then (-1 : Int32) else (if ((v218 * (10 : Int32)) + v231) < (1 : Int32) then (-1 : Int32) else (if (12 : Int32) < ((v218 * (10 : Int32)) + v231) then (-1 : Int32) else (((((((v170 * (1000 : Int32)) + (v182 * (100 : Int32))) + (v194 * (10 : Int32))) + v206) * (12 : Int32)) + ((v218 * (10 : Int32)) + v231)) - (1 : Int32)))))))) ∧ One o329_16_3 ∧ ∀ t, Steps p.tables e below (T44.setTop (mkF m 329 #[.val (.long q0), .second, .val (.int p1), .val (.int p2), .val (.int p3), .val (.ref b2), .val (.int v128), .val (.int v143), .val (.int v150), .val (.int j329_9_5), .val (.int v170), .val (.int v182), .val (.int v194), .val (.int v206), .val (.int v218), .val (.int v231), o329_16_3] [])) t → P0 t := by
                    by_cases hc257 : v194 < (0 : Int32)
                    · have K53 : ∀ t, Steps p.tables e below (T44.setTop (mkF m 329 #[.val (.long q0), .second, .val (.int p1), .val (.int p2), .val (.int p3), .val (.ref b2), .val (.int v128), .val (.int v143), .val (.int v150), .val (.int (-1 : Int32)), .val (.int v170), .val (.int v182), .val (.int v194), .val (.int v206), .val (.int v218), .val (.int v231), .unset] [])) t → P0 t := by
                        intro t kt
                        refine K52 t ?_
                        show Steps p.tables e below (T44.setTop (mkF m 257 #[.val (.long q0), .second, .val (.int p1), .val (.int p2), .val (.int p3), .val (.ref b2), .val (.int v128), .val (.int v143), .val (.int v150), .val (.int (-1 : Int32)), .val (.int v170), .val (.int v182), .val (.int v194), .val (.int v206), .val (.int v218), .val (.int v231), .unset] [(.int v194)])) t
                        refine XS.ifYes X44.here hx rfl (pc0 := 257) (pc' := 329) rfl (hb hby at_257) rfl ((if0 _ _).trans (tlt hc257).1) (by decide) (by decide) ?_
                        exact kt
                      exact ⟨_, .unset, (if_pos hc257).symm, One.u, K53⟩
                    · have K54 : ∀ t, Steps p.tables e below (T44.setTop (mkF m 262 #[.val (.long q0), .second, .val (.int p1), .val (.int p2), .val (.int p3), .val (.ref b2), .val (.int v128), .val (.int v143), .val (.int v150), .val (.int (-1 : Int32)), .val (.int v170), .val (.int v182), .val (.int v194), .val (.int v206), .val (.int v218), .val (.int v231), .unset] [(.int v206)])) t → P0 t := by
                        intro t kt
                        refine K52 t ?_
                        show Steps p.tables e below (T44.setTop (mkF m 257 #[.val (.long q0), .second, .val (.int p1), .val (.int p2), .val (.int p3), .val (.ref b2), .val (.int v128), .val (.int v143), .val (.int v150), .val (.int (-1 : Int32)), .val (.int v170), .val (.int v182), .val (.int v194), .val (.int v206), .val (.int v218), .val (.int v231), .unset] [(.int v194)])) t
                        refine XS.ifNo X44.here hx rfl (hb hby at_257) rfl ((if0 _ _).trans (flt hc257).1) ?_
                        show Steps p.tables e below (T44.setTop (mkF m 260 #[.val (.long q0), .second, .val (.int p1), .val (.int p2), .val (.int p3), .val (.ref b2), .val (.int v128), .val (.int v143), .val (.int v150), .val (.int (-1 : Int32)), .val (.int v170), .val (.int v182), .val (.int v194), .val (.int v206), .val (.int v218), .val (.int v231), .unset] [])) t
                        refine XS.iload X44.here hx rfl (hb hby at_260) rfl ?_
                        exact kt
                      obtain ⟨j329_9_4, o329_16_2, hj329_9_4, hoo329_16_2, K72⟩ : ∃ (j329_9_4 : Int32) (o329_16_2 : Slot), j329_9_4 = (if v206 < (0 : Int32) then (-1 : Int32) else (if v218 < (0 : Int32) then (-1 : Int32) else (if v231 < (0 : Int32) then (-1 : Int32) else (if ((v218 * (10 : Int32)) + v231) < (1 : Int32) then (-1 : Int32) else (if (12 : Int32) < ((v218 * (10 : Int32)) + v231) then (-1 : Int32) else (((((((v170 * (1000 : Int32)) + (v182 * (100 : Int32))) + (v194 * (10 : Int32))) + v206) * (12 : Int32)) + ((v218 * (10 : Int32)) + v231)) - (1 : Int32))))))) ∧ One o329_16_2 ∧ ∀ t, Steps p.tables e below (T44.setTop (mkF m 329 #[.val (.long q0), .second, .val (.int p1), .val (.int p2), .val (.int p3), .val (.ref b2), .val (.int v128), .val (.int v143), .val (.int v150), .val (.int j329_9_4), .val (.int v170), .val (.int v182), .val (.int v194), .val (.int v206), .val (.int v218), .val (.int v231), o329_16_2] [])) t → P0 t := by
                        by_cases hc262 : v206 < (0 : Int32)
                        · have K55 : ∀ t, Steps p.tables e below (T44.setTop (mkF m 329 #[.val (.long q0), .second, .val (.int p1), .val (.int p2), .val (.int p3), .val (.ref b2), .val (.int v128), .val (.int v143), .val (.int v150), .val (.int (-1 : Int32)), .val (.int v170), .val (.int v182), .val (.int v194), .val (.int v206), .val (.int v218), .val (.int v231), .unset] [])) t → P0 t := by
                            intro t kt
                            refine K54 t ?_
                            show Steps p.tables e below (T44.setTop (mkF m 262 #[.val (.long q0), .second, .val (.int p1), .val (.int p2), .val (.int p3), .val (.ref b2), .val (.int v128), .val (.int v143), .val (.int v150), .val (.int (-1 : Int32)), .val (.int v170), .val (.int v182), .val (.int v194), .val (.int v206), .val (.int v218), .val (.int v231), .unset] [(.int v206)])) t
                            refine XS.ifYes X44.here hx rfl (pc0 := 262) (pc' := 329) rfl (hb hby at_262) rfl ((if0 _ _).trans (tlt hc262).1) (by decide) (by decide) ?_
                            exact kt
                          exact ⟨_, .unset, (if_pos hc262).symm, One.u, K55⟩
                        · have K56 : ∀ t, Steps p.tables e below (T44.setTop (mkF m 267 #[.val (.long q0), .second, .val (.int p1), .val (.int p2), .val (.int p3), .val (.ref b2), .val (.int v128), .val (.int v143), .val (.int v150), .val (.int (-1 : Int32)), .val (.int v170), .val (.int v182), .val (.int v194), .val (.int v206), .val (.int v218), .val (.int v231), .unset] [(.int v218)])) t → P0 t := by
                            intro t kt
                            refine K54 t ?_
                            show Steps p.tables e below (T44.setTop (mkF m 262 #[.val (.long q0), .second, .val (.int p1), .val (.int p2), .val (.int p3), .val (.ref b2), .val (.int v128), .val (.int v143), .val (.int v150), .val (.int (-1 : Int32)), .val (.int v170), .val (.int v182), .val (.int v194), .val (.int v206), .val (.int v218), .val (.int v231), .unset] [(.int v206)])) t
                            refine XS.ifNo X44.here hx rfl (hb hby at_262) rfl ((if0 _ _).trans (flt hc262).1) ?_
                            show Steps p.tables e below (T44.setTop (mkF m 265 #[.val (.long q0), .second, .val (.int p1), .val (.int p2), .val (.int p3), .val (.ref b2), .val (.int v128), .val (.int v143), .val (.int v150), .val (.int (-1 : Int32)), .val (.int v170), .val (.int v182), .val (.int v194), .val (.int v206), .val (.int v218), .val (.int v231), .unset] [])) t
                            refine XS.iload X44.here hx rfl (hb hby at_265) rfl ?_
                            exact kt
                          obtain ⟨j329_9_3, o329_16_1, hj329_9_3, hoo329_16_1, K71⟩ : ∃ (j329_9_3 : Int32) (o329_16_1 : Slot), j329_9_3 = (if v218 < (0 : Int32) then (-1 : Int32) else (if v231 < (0 : Int32) then (-1 : Int32) else (if ((v218 * (10 : Int32)) + v231) < (1 : Int32) then (-1 : Int32) else (if (12 : Int32) < ((v218 * (10 : Int32)) + v231) then (-1 : Int32) else (((((((v170 * (1000 : Int32)) + (v182 * (100 : Int32))) + (v194 * (10 : Int32))) + v206) * (12 : Int32)) + ((v218 * (10 : Int32)) + v231)) - (1 : Int32)))))) ∧ One o329_16_1 ∧ ∀ t, Steps p.tables e below (T44.setTop (mkF m 329 #[.val (.long q0), .second, .val (.int p1), .val (.int p2), .val (.int p3), .val (.ref b2), .val (.int v128), .val (.int v143), .val (.int v150), .val (.int j329_9_3), .val (.int v170), .val (.int v182), .val (.int v194), .val (.int v206), .val (.int v218), .val (.int v231), o329_16_1] [])) t → P0 t := by
                            by_cases hc267 : v218 < (0 : Int32)
                            · have K57 : ∀ t, Steps p.tables e below (T44.setTop (mkF m 329 #[.val (.long q0), .second, .val (.int p1), .val (.int p2), .val (.int p3), .val (.ref b2), .val (.int v128), .val (.int v143), .val (.int v150), .val (.int (-1 : Int32)), .val (.int v170), .val (.int v182), .val (.int v194), .val (.int v206), .val (.int v218), .val (.int v231), .unset] [])) t → P0 t := by
                                intro t kt
                                refine K56 t ?_
                                show Steps p.tables e below (T44.setTop (mkF m 267 #[.val (.long q0), .second, .val (.int p1), .val (.int p2), .val (.int p3), .val (.ref b2), .val (.int v128), .val (.int v143), .val (.int v150), .val (.int (-1 : Int32)), .val (.int v170), .val (.int v182), .val (.int v194), .val (.int v206), .val (.int v218), .val (.int v231), .unset] [(.int v218)])) t
                                refine XS.ifYes X44.here hx rfl (pc0 := 267) (pc' := 329) rfl (hb hby at_267) rfl ((if0 _ _).trans (tlt hc267).1) (by decide) (by decide) ?_
                                exact kt
                              exact ⟨_, .unset, (if_pos hc267).symm, One.u, K57⟩
                            · have K58 : ∀ t, Steps p.tables e below (T44.setTop (mkF m 272 #[.val (.long q0), .second, .val (.int p1), .val (.int p2), .val (.int p3), .val (.ref b2), .val (.int v128), .val (.int v143), .val (.int v150), .val (.int (-1 : Int32)), .val (.int v170), .val (.int v182), .val (.int v194), .val (.int v206), .val (.int v218), .val (.int v231), .unset] [(.int v231)])) t → P0 t := by
                                intro t kt
                                refine K56 t ?_
                                show Steps p.tables e below (T44.setTop (mkF m 267 #[.val (.long q0), .second, .val (.int p1), .val (.int p2), .val (.int p3), .val (.ref b2), .val (.int v128), .val (.int v143), .val (.int v150), .val (.int (-1 : Int32)), .val (.int v170), .val (.int v182), .val (.int v194), .val (.int v206), .val (.int v218), .val (.int v231), .unset] [(.int v218)])) t
                                refine XS.ifNo X44.here hx rfl (hb hby at_267) rfl ((if0 _ _).trans (flt hc267).1) ?_
                                show Steps p.tables e below (T44.setTop (mkF m 270 #[.val (.long q0), .second, .val (.int p1), .val (.int p2), .val (.int p3), .val (.ref b2), .val (.int v128), .val (.int v143), .val (.int v150), .val (.int (-1 : Int32)), .val (.int v170), .val (.int v182), .val (.int v194), .val (.int v206), .val (.int v218), .val (.int v231), .unset] [])) t
                                refine XS.iload X44.here hx rfl (hb hby at_270) rfl ?_
                                exact kt
                              obtain ⟨j329_9_2, o329_16, hj329_9_2, hoo329_16, K70⟩ : ∃ (j329_9_2 : Int32) (o329_16 : Slot), j329_9_2 = (if v231 < (0 : Int32) then (-1 : Int32) else (if ((v218 * (10 : Int32)) + v231) < (1 : Int32) then (-1 : Int32) else (if (12 : Int32) < ((v218 * (10 : Int32)) + v231) then (-1 : Int32) else (((((((v170 * (1000 : Int32)) + (v182 * (100 : Int32))) + (v194 * (10 : Int32))) + v206) * (12 : Int32)) + ((v218 * (10 : Int32)) + v231)) - (1 : Int32))))) ∧ One o329_16 ∧ ∀ t, Steps p.tables e below (T44.setTop (mkF m 329 #[.val (.long q0), .second, .val (.int p1), .val (.int p2), .val (.int p3), .val (.ref b2), .val (.int v128), .val (.int v143), .val (.int v150), .val (.int j329_9_2), .val (.int v170), .val (.int v182), .val (.int v194), .val (.int v206), .val (.int v218), .val (.int v231), o329_16] [])) t → P0 t := by
                                by_cases hc272 : v231 < (0 : Int32)
                                · have K59 : ∀ t, Steps p.tables e below (T44.setTop (mkF m 329 #[.val (.long q0), .second, .val (.int p1), .val (.int p2), .val (.int p3), .val (.ref b2), .val (.int v128), .val (.int v143), .val (.int v150), .val (.int (-1 : Int32)), .val (.int v170), .val (.int v182), .val (.int v194), .val (.int v206), .val (.int v218), .val (.int v231), .unset] [])) t → P0 t := by
                                    intro t kt
                                    refine K58 t ?_
                                    show Steps p.tables e below (T44.setTop (mkF m 272 #[.val (.long q0), .second, .val (.int p1), .val (.int p2), .val (.int p3), .val (.ref b2), .val (.int v128), .val (.int v143), .val (.int v150), .val (.int (-1 : Int32)), .val (.int v170), .val (.int v182), .val (.int v194), .val (.int v206), .val (.int v218), .val (.int v231), .unset] [(.int v231)])) t
                                    refine XS.ifYes X44.here hx rfl (pc0 := 272) (pc' := 329) rfl (hb hby at_272) rfl ((if0 _ _).trans (tlt hc272).1) (by decide) (by decide) ?_
                                    exact kt
                                  exact ⟨_, .unset, (if_pos hc272).symm, One.u, K59⟩
                                · have K60 : ∀ t, Steps p.tables e below (T44.setTop (mkF m 285 #[.val (.long q0), .second, .val (.int p1), .val (.int p2), .val (.int p3), .val (.ref b2), .val (.int v128), .val (.int v143), .val (.int v150), .val (.int (-1 : Int32)), .val (.int v170), .val (.int v182), .val (.int v194), .val (.int v206), .val (.int v218), .val (.int v231), .val (.int ((v218 * (10 : Int32)) + v231))] [])) t → P0 t := by
                                    intro t kt
                                    refine K58 t ?_
                                    show Steps p.tables e below (T44.setTop (mkF m 272 #[.val (.long q0), .second, .val (.int p1), .val (.int p2), .val (.int p3), .val (.ref b2), .val (.int v128), .val (.int v143), .val (.int v150), .val (.int (-1 : Int32)), .val (.int v170), .val (.int v182), .val (.int v194), .val (.int v206), .val (.int v218), .val (.int v231), .unset] [(.int v231)])) t
                                    refine XS.ifNo X44.here hx rfl (hb hby at_272) rfl ((if0 _ _).trans (flt hc272).1) ?_
                                    show Steps p.tables e below (T44.setTop (mkF m 275 #[.val (.long q0), .second, .val (.int p1), .val (.int p2), .val (.int p3), .val (.ref b2), .val (.int v128), .val (.int v143), .val (.int v150), .val (.int (-1 : Int32)), .val (.int v170), .val (.int v182), .val (.int v194), .val (.int v206), .val (.int v218), .val (.int v231), .unset] [])) t
                                    refine XS.iload X44.here hx rfl (hb hby at_275) rfl ?_
                                    show Steps p.tables e below (T44.setTop (mkF m 277 #[.val (.long q0), .second, .val (.int p1), .val (.int p2), .val (.int p3), .val (.ref b2), .val (.int v128), .val (.int v143), .val (.int v150), .val (.int (-1 : Int32)), .val (.int v170), .val (.int v182), .val (.int v194), .val (.int v206), .val (.int v218), .val (.int v231), .unset] [(.int v218)])) t
                                    refine XS.bipush X44.here hx rfl (hb hby at_277) ?_
                                    show Steps p.tables e below (T44.setTop (mkF m 279 #[.val (.long q0), .second, .val (.int p1), .val (.int p2), .val (.int p3), .val (.ref b2), .val (.int v128), .val (.int v143), .val (.int v150), .val (.int (-1 : Int32)), .val (.int v170), .val (.int v182), .val (.int v194), .val (.int v206), .val (.int v218), .val (.int v231), .unset] [(.int (10 : Int32)), (.int v218)])) t
                                    refine XS.imul X44.here hx rfl (hb hby at_279) rfl ?_
                                    show Steps p.tables e below (T44.setTop (mkF m 280 #[.val (.long q0), .second, .val (.int p1), .val (.int p2), .val (.int p3), .val (.ref b2), .val (.int v128), .val (.int v143), .val (.int v150), .val (.int (-1 : Int32)), .val (.int v170), .val (.int v182), .val (.int v194), .val (.int v206), .val (.int v218), .val (.int v231), .unset] [(.int (v218 * (10 : Int32)))])) t
                                    refine XS.iload X44.here hx rfl (hb hby at_280) rfl ?_
                                    show Steps p.tables e below (T44.setTop (mkF m 282 #[.val (.long q0), .second, .val (.int p1), .val (.int p2), .val (.int p3), .val (.ref b2), .val (.int v128), .val (.int v143), .val (.int v150), .val (.int (-1 : Int32)), .val (.int v170), .val (.int v182), .val (.int v194), .val (.int v206), .val (.int v218), .val (.int v231), .unset] [(.int v231), (.int (v218 * (10 : Int32)))])) t
                                    refine XS.iadd X44.here hx rfl (hb hby at_282) rfl ?_
                                    show Steps p.tables e below (T44.setTop (mkF m 283 #[.val (.long q0), .second, .val (.int p1), .val (.int p2), .val (.int p3), .val (.ref b2), .val (.int v128), .val (.int v143), .val (.int v150), .val (.int (-1 : Int32)), .val (.int v170), .val (.int v182), .val (.int v194), .val (.int v206), .val (.int v218), .val (.int v231), .unset] [(.int ((v218 * (10 : Int32)) + v231))])) t
                                    refine XS.istore X44.here hx rfl (hb hby at_283) rfl (l' := #[.val (.long q0), .second, .val (.int p1), .val (.int p2), .val (.int p3), .val (.ref b2), .val (.int v128), .val (.int v143), .val (.int v150), .val (.int (-1 : Int32)), .val (.int v170), .val (.int v182), .val (.int v194), .val (.int v206), .val (.int v218), .val (.int v231), .val (.int ((v218 * (10 : Int32)) + v231))]) rfl ?_
                                    exact kt
                                  obtain ⟨v283, hv283, K61⟩ : ∃ v283 : Int32, v283 = ((v218 * (10 : Int32)) + v231) ∧ ∀ t, Steps p.tables e below (T44.setTop (mkF m 285 #[.val (.long q0), .second, .val (.int p1), .val (.int p2), .val (.int p3), .val (.ref b2), .val (.int v128), .val (.int v143), .val (.int v150), .val (.int (-1 : Int32)), .val (.int v170), .val (.int v182), .val (.int v194), .val (.int v206), .val (.int v218), .val (.int v231), .val (.int v283)] [])) t → P0 t := ⟨_, rfl, K60⟩
                                  have K62 : ∀ t, Steps p.tables e below (T44.setTop (mkF m 288 #[.val (.long q0), .second, .val (.int p1), .val (.int p2), .val (.int p3), .val (.ref b2), .val (.int v128), .val (.int v143), .val (.int v150), .val (.int (-1 : Int32)), .val (.int v170), .val (.int v182), .val (.int v194), .val (.int v206), .val (.int v218), .val (.int v231), .val (.int v283)] [(.int (1 : Int32)), (.int v283)])) t → P0 t := by
                                    intro t kt
                                    refine K61 t ?_
                                    show Steps p.tables e below (T44.setTop (mkF m 285 #[.val (.long q0), .second, .val (.int p1), .val (.int p2), .val (.int p3), .val (.ref b2), .val (.int v128), .val (.int v143), .val (.int v150), .val (.int (-1 : Int32)), .val (.int v170), .val (.int v182), .val (.int v194), .val (.int v206), .val (.int v218), .val (.int v231), .val (.int v283)] [])) t
                                    refine XS.iload X44.here hx rfl (hb hby at_285) rfl ?_
                                    show Steps p.tables e below (T44.setTop (mkF m 287 #[.val (.long q0), .second, .val (.int p1), .val (.int p2), .val (.int p3), .val (.ref b2), .val (.int v128), .val (.int v143), .val (.int v150), .val (.int (-1 : Int32)), .val (.int v170), .val (.int v182), .val (.int v194), .val (.int v206), .val (.int v218), .val (.int v231), .val (.int v283)] [(.int v283)])) t
                                    refine XS.iconst X44.here hx rfl (hb hby at_287) ?_
                                    exact kt
                                  obtain ⟨j329_9_1, hj329_9_1, K69⟩ : ∃ (j329_9_1 : Int32), j329_9_1 = (if v283 < (1 : Int32) then (-1 : Int32) else (if (12 : Int32) < v283 then (-1 : Int32) else (((((((v170 * (1000 : Int32)) + (v182 * (100 : Int32))) + (v194 * (10 : Int32))) + v206) * (12 : Int32)) + v283) - (1 : Int32)))) ∧ ∀ t, Steps p.tables e below (T44.setTop (mkF m 329 #[.val (.long q0), .second, .val (.int p1), .val (.int p2), .val (.int p3), .val (.ref b2), .val (.int v128), .val (.int v143), .val (.int v150), .val (.int j329_9_1), .val (.int v170), .val (.int v182), .val (.int v194), .val (.int v206), .val (.int v218), .val (.int v231), .val (.int v283)] [])) t → P0 t := by
                                    by_cases hc288 : v283 < (1 : Int32)
                                    · have K63 : ∀ t, Steps p.tables e below (T44.setTop (mkF m 329 #[.val (.long q0), .second, .val (.int p1), .val (.int p2), .val (.int p3), .val (.ref b2), .val (.int v128), .val (.int v143), .val (.int v150), .val (.int (-1 : Int32)), .val (.int v170), .val (.int v182), .val (.int v194), .val (.int v206), .val (.int v218), .val (.int v231), .val (.int v283)] [])) t → P0 t := by
                                        intro t kt
                                        refine K62 t ?_
                                        show Steps p.tables e below (T44.setTop (mkF m 288 #[.val (.long q0), .second, .val (.int p1), .val (.int p2), .val (.int p3), .val (.ref b2), .val (.int v128), .val (.int v143), .val (.int v150), .val (.int (-1 : Int32)), .val (.int v170), .val (.int v182), .val (.int v194), .val (.int v206), .val (.int v218), .val (.int v231), .val (.int v283)] [(.int (1 : Int32)), (.int v283)])) t
                                        refine XS.icmpYes X44.here hx rfl (pc0 := 288) (pc' := 329) rfl (hb hby at_288) rfl (tlt hc288).1 (by decide) (by decide) ?_
                                        exact kt
                                      exact ⟨_, (if_pos hc288).symm, K63⟩
                                    · have K64 : ∀ t, Steps p.tables e below (T44.setTop (mkF m 295 #[.val (.long q0), .second, .val (.int p1), .val (.int p2), .val (.int p3), .val (.ref b2), .val (.int v128), .val (.int v143), .val (.int v150), .val (.int (-1 : Int32)), .val (.int v170), .val (.int v182), .val (.int v194), .val (.int v206), .val (.int v218), .val (.int v231), .val (.int v283)] [(.int (12 : Int32)), (.int v283)])) t → P0 t := by
                                        intro t kt
                                        refine K62 t ?_
                                        show Steps p.tables e below (T44.setTop (mkF m 288 #[.val (.long q0), .second, .val (.int p1), .val (.int p2), .val (.int p3), .val (.ref b2), .val (.int v128), .val (.int v143), .val (.int v150), .val (.int (-1 : Int32)), .val (.int v170), .val (.int v182), .val (.int v194), .val (.int v206), .val (.int v218), .val (.int v231), .val (.int v283)] [(.int (1 : Int32)), (.int v283)])) t
                                        refine XS.icmpNo X44.here hx rfl (hb hby at_288) rfl (flt hc288).1 ?_
                                        show Steps p.tables e below (T44.setTop (mkF m 291 #[.val (.long q0), .second, .val (.int p1), .val (.int p2), .val (.int p3), .val (.ref b2), .val (.int v128), .val (.int v143), .val (.int v150), .val (.int (-1 : Int32)), .val (.int v170), .val (.int v182), .val (.int v194), .val (.int v206), .val (.int v218), .val (.int v231), .val (.int v283)] [])) t
                                        refine XS.iload X44.here hx rfl (hb hby at_291) rfl ?_
                                        show Steps p.tables e below (T44.setTop (mkF m 293 #[.val (.long q0), .second, .val (.int p1), .val (.int p2), .val (.int p3), .val (.ref b2), .val (.int v128), .val (.int v143), .val (.int v150), .val (.int (-1 : Int32)), .val (.int v170), .val (.int v182), .val (.int v194), .val (.int v206), .val (.int v218), .val (.int v231), .val (.int v283)] [(.int v283)])) t
                                        refine XS.bipush X44.here hx rfl (hb hby at_293) ?_
                                        exact kt
                                      obtain ⟨j329_9, hj329_9, K68⟩ : ∃ (j329_9 : Int32), j329_9 = (if (12 : Int32) < v283 then (-1 : Int32) else (((((((v170 * (1000 : Int32)) + (v182 * (100 : Int32))) + (v194 * (10 : Int32))) + v206) * (12 : Int32)) + v283) - (1 : Int32))) ∧ ∀ t, Steps p.tables e below (T44.setTop (mkF m 329 #[.val (.long q0), .second, .val (.int p1), .val (.int p2), .val (.int p3), .val (.ref b2), .val (.int v128), .val (.int v143), .val (.int v150), .val (.int j329_9), .val (.int v170), .val (.int v182), .val (.int v194), .val (.int v206), .val (.int v218), .val (.int v231), .val (.int v283)] [])) t → P0 t := by
                                        by_cases hc295 : (12 : Int32) < v283
                                        · have K65 : ∀ t, Steps p.tables e below (T44.setTop (mkF m 329 #[.val (.long q0), .second, .val (.int p1), .val (.int p2), .val (.int p3), .val (.ref b2), .val (.int v128), .val (.int v143), .val (.int v150), .val (.int (-1 : Int32)), .val (.int v170), .val (.int v182), .val (.int v194), .val (.int v206), .val (.int v218), .val (.int v231), .val (.int v283)] [])) t → P0 t := by
                                            intro t kt
                                            refine K64 t ?_
                                            show Steps p.tables e below (T44.setTop (mkF m 295 #[.val (.long q0), .second, .val (.int p1), .val (.int p2), .val (.int p3), .val (.ref b2), .val (.int v128), .val (.int v143), .val (.int v150), .val (.int (-1 : Int32)), .val (.int v170), .val (.int v182), .val (.int v194), .val (.int v206), .val (.int v218), .val (.int v231), .val (.int v283)] [(.int (12 : Int32)), (.int v283)])) t
                                            refine XS.icmpYes X44.here hx rfl (pc0 := 295) (pc' := 329) rfl (hb hby at_295) rfl (tlt hc295).2.2.1 (by decide) (by decide) ?_
                                            exact kt
                                          exact ⟨_, (if_pos hc295).symm, K65⟩
                                        · have K66 : ∀ t, Steps p.tables e below (T44.setTop (mkF m 329 #[.val (.long q0), .second, .val (.int p1), .val (.int p2), .val (.int p3), .val (.ref b2), .val (.int v128), .val (.int v143), .val (.int v150), .val (.int (((((((v170 * (1000 : Int32)) + (v182 * (100 : Int32))) + (v194 * (10 : Int32))) + v206) * (12 : Int32)) + v283) - (1 : Int32))), .val (.int v170), .val (.int v182), .val (.int v194), .val (.int v206), .val (.int v218), .val (.int v231), .val (.int v283)] [])) t → P0 t := by
                                            intro t kt
                                            refine K64 t ?_
                                            show Steps p.tables e below (T44.setTop (mkF m 295 #[.val (.long q0), .second, .val (.int p1), .val (.int p2), .val (.int p3), .val (.ref b2), .val (.int v128), .val (.int v143), .val (.int v150), .val (.int (-1 : Int32)), .val (.int v170), .val (.int v182), .val (.int v194), .val (.int v206), .val (.int v218), .val (.int v231), .val (.int v283)] [(.int (12 : Int32)), (.int v283)])) t
                                            refine XS.icmpNo X44.here hx rfl (hb hby at_295) rfl (flt hc295).2.2.1 ?_
                                            show Steps p.tables e below (T44.setTop (mkF m 298 #[.val (.long q0), .second, .val (.int p1), .val (.int p2), .val (.int p3), .val (.ref b2), .val (.int v128), .val (.int v143), .val (.int v150), .val (.int (-1 : Int32)), .val (.int v170), .val (.int v182), .val (.int v194), .val (.int v206), .val (.int v218), .val (.int v231), .val (.int v283)] [])) t
                                            refine XS.iload X44.here hx rfl (hb hby at_298) rfl ?_
                                            show Steps p.tables e below (T44.setTop (mkF m 300 #[.val (.long q0), .second, .val (.int p1), .val (.int p2), .val (.int p3), .val (.ref b2), .val (.int v128), .val (.int v143), .val (.int v150), .val (.int (-1 : Int32)), .val (.int v170), .val (.int v182), .val (.int v194), .val (.int v206), .val (.int v218), .val (.int v231), .val (.int v283)] [(.int v170)])) t
                                            refine XS.sipush X44.here hx rfl (hb hby at_300) ?_
                                            show Steps p.tables e below (T44.setTop (mkF m 303 #[.val (.long q0), .second, .val (.int p1), .val (.int p2), .val (.int p3), .val (.ref b2), .val (.int v128), .val (.int v143), .val (.int v150), .val (.int (-1 : Int32)), .val (.int v170), .val (.int v182), .val (.int v194), .val (.int v206), .val (.int v218), .val (.int v231), .val (.int v283)] [(.int (1000 : Int32)), (.int v170)])) t
                                            refine XS.imul X44.here hx rfl (hb hby at_303) rfl ?_
                                            show Steps p.tables e below (T44.setTop (mkF m 304 #[.val (.long q0), .second, .val (.int p1), .val (.int p2), .val (.int p3), .val (.ref b2), .val (.int v128), .val (.int v143), .val (.int v150), .val (.int (-1 : Int32)), .val (.int v170), .val (.int v182), .val (.int v194), .val (.int v206), .val (.int v218), .val (.int v231), .val (.int v283)] [(.int (v170 * (1000 : Int32)))])) t
                                            refine XS.iload X44.here hx rfl (hb hby at_304) rfl ?_
                                            show Steps p.tables e below (T44.setTop (mkF m 306 #[.val (.long q0), .second, .val (.int p1), .val (.int p2), .val (.int p3), .val (.ref b2), .val (.int v128), .val (.int v143), .val (.int v150), .val (.int (-1 : Int32)), .val (.int v170), .val (.int v182), .val (.int v194), .val (.int v206), .val (.int v218), .val (.int v231), .val (.int v283)] [(.int v182), (.int (v170 * (1000 : Int32)))])) t
                                            refine XS.bipush X44.here hx rfl (hb hby at_306) ?_
                                            show Steps p.tables e below (T44.setTop (mkF m 308 #[.val (.long q0), .second, .val (.int p1), .val (.int p2), .val (.int p3), .val (.ref b2), .val (.int v128), .val (.int v143), .val (.int v150), .val (.int (-1 : Int32)), .val (.int v170), .val (.int v182), .val (.int v194), .val (.int v206), .val (.int v218), .val (.int v231), .val (.int v283)] [(.int (100 : Int32)), (.int v182), (.int (v170 * (1000 : Int32)))])) t
                                            refine XS.imul X44.here hx rfl (hb hby at_308) rfl ?_
                                            show Steps p.tables e below (T44.setTop (mkF m 309 #[.val (.long q0), .second, .val (.int p1), .val (.int p2), .val (.int p3), .val (.ref b2), .val (.int v128), .val (.int v143), .val (.int v150), .val (.int (-1 : Int32)), .val (.int v170), .val (.int v182), .val (.int v194), .val (.int v206), .val (.int v218), .val (.int v231), .val (.int v283)] [(.int (v182 * (100 : Int32))), (.int (v170 * (1000 : Int32)))])) t
                                            refine XS.iadd X44.here hx rfl (hb hby at_309) rfl ?_
                                            show Steps p.tables e below (T44.setTop (mkF m 310 #[.val (.long q0), .second, .val (.int p1), .val (.int p2), .val (.int p3), .val (.ref b2), .val (.int v128), .val (.int v143), .val (.int v150), .val (.int (-1 : Int32)), .val (.int v170), .val (.int v182), .val (.int v194), .val (.int v206), .val (.int v218), .val (.int v231), .val (.int v283)] [(.int ((v170 * (1000 : Int32)) + (v182 * (100 : Int32))))])) t
                                            refine XS.iload X44.here hx rfl (hb hby at_310) rfl ?_
                                            show Steps p.tables e below (T44.setTop (mkF m 312 #[.val (.long q0), .second, .val (.int p1), .val (.int p2), .val (.int p3), .val (.ref b2), .val (.int v128), .val (.int v143), .val (.int v150), .val (.int (-1 : Int32)), .val (.int v170), .val (.int v182), .val (.int v194), .val (.int v206), .val (.int v218), .val (.int v231), .val (.int v283)] [(.int v194), (.int ((v170 * (1000 : Int32)) + (v182 * (100 : Int32))))])) t
                                            refine XS.bipush X44.here hx rfl (hb hby at_312) ?_
                                            show Steps p.tables e below (T44.setTop (mkF m 314 #[.val (.long q0), .second, .val (.int p1), .val (.int p2), .val (.int p3), .val (.ref b2), .val (.int v128), .val (.int v143), .val (.int v150), .val (.int (-1 : Int32)), .val (.int v170), .val (.int v182), .val (.int v194), .val (.int v206), .val (.int v218), .val (.int v231), .val (.int v283)] [(.int (10 : Int32)), (.int v194), (.int ((v170 * (1000 : Int32)) + (v182 * (100 : Int32))))])) t
                                            refine XS.imul X44.here hx rfl (hb hby at_314) rfl ?_
                                            show Steps p.tables e below (T44.setTop (mkF m 315 #[.val (.long q0), .second, .val (.int p1), .val (.int p2), .val (.int p3), .val (.ref b2), .val (.int v128), .val (.int v143), .val (.int v150), .val (.int (-1 : Int32)), .val (.int v170), .val (.int v182), .val (.int v194), .val (.int v206), .val (.int v218), .val (.int v231), .val (.int v283)] [(.int (v194 * (10 : Int32))), (.int ((v170 * (1000 : Int32)) + (v182 * (100 : Int32))))])) t
                                            refine XS.iadd X44.here hx rfl (hb hby at_315) rfl ?_
                                            show Steps p.tables e below (T44.setTop (mkF m 316 #[.val (.long q0), .second, .val (.int p1), .val (.int p2), .val (.int p3), .val (.ref b2), .val (.int v128), .val (.int v143), .val (.int v150), .val (.int (-1 : Int32)), .val (.int v170), .val (.int v182), .val (.int v194), .val (.int v206), .val (.int v218), .val (.int v231), .val (.int v283)] [(.int (((v170 * (1000 : Int32)) + (v182 * (100 : Int32))) + (v194 * (10 : Int32))))])) t
                                            refine XS.iload X44.here hx rfl (hb hby at_316) rfl ?_
                                            show Steps p.tables e below (T44.setTop (mkF m 318 #[.val (.long q0), .second, .val (.int p1), .val (.int p2), .val (.int p3), .val (.ref b2), .val (.int v128), .val (.int v143), .val (.int v150), .val (.int (-1 : Int32)), .val (.int v170), .val (.int v182), .val (.int v194), .val (.int v206), .val (.int v218), .val (.int v231), .val (.int v283)] [(.int v206), (.int (((v170 * (1000 : Int32)) + (v182 * (100 : Int32))) + (v194 * (10 : Int32))))])) t
                                            refine XS.iadd X44.here hx rfl (hb hby at_318) rfl ?_
                                            show Steps p.tables e below (T44.setTop (mkF m 319 #[.val (.long q0), .second, .val (.int p1), .val (.int p2), .val (.int p3), .val (.ref b2), .val (.int v128), .val (.int v143), .val (.int v150), .val (.int (-1 : Int32)), .val (.int v170), .val (.int v182), .val (.int v194), .val (.int v206), .val (.int v218), .val (.int v231), .val (.int v283)] [(.int ((((v170 * (1000 : Int32)) + (v182 * (100 : Int32))) + (v194 * (10 : Int32))) + v206))])) t
                                            refine XS.bipush X44.here hx rfl (hb hby at_319) ?_
                                            show Steps p.tables e below (T44.setTop (mkF m 321 #[.val (.long q0), .second, .val (.int p1), .val (.int p2), .val (.int p3), .val (.ref b2), .val (.int v128), .val (.int v143), .val (.int v150), .val (.int (-1 : Int32)), .val (.int v170), .val (.int v182), .val (.int v194), .val (.int v206), .val (.int v218), .val (.int v231), .val (.int v283)] [(.int (12 : Int32)), (.int ((((v170 * (1000 : Int32)) + (v182 * (100 : Int32))) + (v194 * (10 : Int32))) + v206))])) t
                                            refine XS.imul X44.here hx rfl (hb hby at_321) rfl ?_
                                            show Steps p.tables e below (T44.setTop (mkF m 322 #[.val (.long q0), .second, .val (.int p1), .val (.int p2), .val (.int p3), .val (.ref b2), .val (.int v128), .val (.int v143), .val (.int v150), .val (.int (-1 : Int32)), .val (.int v170), .val (.int v182), .val (.int v194), .val (.int v206), .val (.int v218), .val (.int v231), .val (.int v283)] [(.int (((((v170 * (1000 : Int32)) + (v182 * (100 : Int32))) + (v194 * (10 : Int32))) + v206) * (12 : Int32)))])) t
                                            refine XS.iload X44.here hx rfl (hb hby at_322) rfl ?_
                                            show Steps p.tables e below (T44.setTop (mkF m 324 #[.val (.long q0), .second, .val (.int p1), .val (.int p2), .val (.int p3), .val (.ref b2), .val (.int v128), .val (.int v143), .val (.int v150), .val (.int (-1 : Int32)), .val (.int v170), .val (.int v182), .val (.int v194), .val (.int v206), .val (.int v218), .val (.int v231), .val (.int v283)] [(.int v283), (.int (((((v170 * (1000 : Int32)) + (v182 * (100 : Int32))) + (v194 * (10 : Int32))) + v206) * (12 : Int32)))])) t
                                            refine XS.iadd X44.here hx rfl (hb hby at_324) rfl ?_
                                            show Steps p.tables e below (T44.setTop (mkF m 325 #[.val (.long q0), .second, .val (.int p1), .val (.int p2), .val (.int p3), .val (.ref b2), .val (.int v128), .val (.int v143), .val (.int v150), .val (.int (-1 : Int32)), .val (.int v170), .val (.int v182), .val (.int v194), .val (.int v206), .val (.int v218), .val (.int v231), .val (.int v283)] [(.int ((((((v170 * (1000 : Int32)) + (v182 * (100 : Int32))) + (v194 * (10 : Int32))) + v206) * (12 : Int32)) + v283))])) t
                                            refine XS.iconst X44.here hx rfl (hb hby at_325) ?_
                                            show Steps p.tables e below (T44.setTop (mkF m 326 #[.val (.long q0), .second, .val (.int p1), .val (.int p2), .val (.int p3), .val (.ref b2), .val (.int v128), .val (.int v143), .val (.int v150), .val (.int (-1 : Int32)), .val (.int v170), .val (.int v182), .val (.int v194), .val (.int v206), .val (.int v218), .val (.int v231), .val (.int v283)] [(.int (1 : Int32)), (.int ((((((v170 * (1000 : Int32)) + (v182 * (100 : Int32))) + (v194 * (10 : Int32))) + v206) * (12 : Int32)) + v283))])) t
                                            refine XS.isub X44.here hx rfl (hb hby at_326) rfl ?_
                                            show Steps p.tables e below (T44.setTop (mkF m 327 #[.val (.long q0), .second, .val (.int p1), .val (.int p2), .val (.int p3), .val (.ref b2), .val (.int v128), .val (.int v143), .val (.int v150), .val (.int (-1 : Int32)), .val (.int v170), .val (.int v182), .val (.int v194), .val (.int v206), .val (.int v218), .val (.int v231), .val (.int v283)] [(.int (((((((v170 * (1000 : Int32)) + (v182 * (100 : Int32))) + (v194 * (10 : Int32))) + v206) * (12 : Int32)) + v283) - (1 : Int32)))])) t
                                            refine XS.istore X44.here hx rfl (hb hby at_327) rfl (l' := #[.val (.long q0), .second, .val (.int p1), .val (.int p2), .val (.int p3), .val (.ref b2), .val (.int v128), .val (.int v143), .val (.int v150), .val (.int (((((((v170 * (1000 : Int32)) + (v182 * (100 : Int32))) + (v194 * (10 : Int32))) + v206) * (12 : Int32)) + v283) - (1 : Int32))), .val (.int v170), .val (.int v182), .val (.int v194), .val (.int v206), .val (.int v218), .val (.int v231), .val (.int v283)]) rfl ?_
                                            exact kt
                                          obtain ⟨v327, hv327, K67⟩ : ∃ v327 : Int32, v327 = (((((((v170 * (1000 : Int32)) + (v182 * (100 : Int32))) + (v194 * (10 : Int32))) + v206) * (12 : Int32)) + v283) - (1 : Int32)) ∧ ∀ t, Steps p.tables e below (T44.setTop (mkF m 329 #[.val (.long q0), .second, .val (.int p1), .val (.int p2), .val (.int p3), .val (.ref b2), .val (.int v128), .val (.int v143), .val (.int v150), .val (.int v327), .val (.int v170), .val (.int v182), .val (.int v194), .val (.int v206), .val (.int v218), .val (.int v231), .val (.int v283)] [])) t → P0 t := ⟨_, rfl, K66⟩
                                          subst hv327
                                          exact ⟨_, (if_neg hc295).symm, K67⟩
                                      subst hj329_9
                                      exact ⟨_, (if_neg hc288).symm, K68⟩
                                  subst hv283
                                  subst hj329_9_1
                                  exact ⟨_, .val (.int ((v218 * (10 : Int32)) + v231)), (if_neg hc272).symm, (One.val rfl), K69⟩
                              subst hj329_9_2
                              exact ⟨_, o329_16, (if_neg hc267).symm, hoo329_16, K70⟩
                          subst hj329_9_3
                          exact ⟨_, o329_16_1, (if_neg hc262).symm, hoo329_16_1, K71⟩
                      subst hj329_9_4
                      exact ⟨_, o329_16_2, (if_neg hc257).symm, hoo329_16_2, K72⟩
                  subst hj329_9_5
                  exact ⟨_, o329_16_3, (if_neg hc252).symm, hoo329_16_3, K73⟩
              subst hj329_9_6
              exact ⟨_, o329_16_4, (if_neg hc247).symm, hoo329_16_4, K74⟩
          subst hj329_9_7
          exact ⟨_, o329_16_5, (if_pos hc242).symm, hoo329_16_5, K75⟩
        · have K76 : ∀ t, Steps p.tables e below (T44.setTop (mkF m 329 #[.val (.long q0), .second, .val (.int p1), .val (.int p2), .val (.int p3), .val (.ref b2), .val (.int v128), .val (.int v143), .val (.int v150), .val (.int (-1 : Int32)), .val (.int v170), .val (.int v182), .val (.int v194), .val (.int v206), .val (.int v218), .val (.int v231), .unset] [])) t → P0 t := by
            intro t kt
            refine K47 t ?_
            show Steps p.tables e below (T44.setTop (mkF m 242 #[.val (.long q0), .second, .val (.int p1), .val (.int p2), .val (.int p3), .val (.ref b2), .val (.int v128), .val (.int v143), .val (.int v150), .val (.int (-1 : Int32)), .val (.int v170), .val (.int v182), .val (.int v194), .val (.int v206), .val (.int v218), .val (.int v231), .unset] [(.int (45 : Int32)), (.int (f123 ((v128 + (4 : Int32))).toNatClampNeg))])) t
            refine XS.icmpYes X44.here hx rfl (pc0 := 242) (pc' := 329) rfl (hb hby at_242) rfl (feq hc242).2 (by decide) (by decide) ?_
            exact kt
          exact ⟨_, .unset, (if_neg hc242).symm, One.u, K76⟩
      subst hv170
      subst hv182
      subst hv194
      subst hv206
      subst hv218
      subst hv231
      subst hj329_9_8
      exact ⟨_, .val (.int (fDig (f123 (v128).toNatClampNeg))), .val (.int (fDig (f123 ((v128 + (1 : Int32))).toNatClampNeg))), .val (.int (fDig (f123 ((v128 + (2 : Int32))).toNatClampNeg))), .val (.int (fDig (f123 ((v128 + (3 : Int32))).toNatClampNeg))), .val (.int (fDig (f123 ((v128 + (5 : Int32))).toNatClampNeg))), .val (.int (fDig (f123 ((v128 + (6 : Int32))).toNatClampNeg))), o329_16_6, _, _, (if_pos hc159).symm, (One.val rfl), (One.val rfl), (One.val rfl), (One.val rfl), (One.val rfl), (One.val rfl), hoo329_16_6, X44, e44, N44, K77⟩
    · have K78 : ∀ t, Steps p.tables e below (T21.setTop (mkF m 329 #[.val (.long q0), .second, .val (.int p1), .val (.int p2), .val (.int p3), .val (.ref b2), .val (.int v128), .val (.int v143), .val (.int v150), .val (.int (-1 : Int32)), .unset, .unset, .unset, .unset, .unset, .unset, .unset] [])) t → P0 t := by
        intro t kt
        refine K28 t ?_
        show Steps p.tables e below (T21.setTop (mkF m 159 #[.val (.long q0), .second, .val (.int p1), .val (.int p2), .val (.int p3), .val (.ref b2), .val (.int v128), .val (.int v143), .val (.int v150), .val (.int (-1 : Int32)), .unset, .unset, .unset, .unset, .unset, .unset, .unset] [(.int (7 : Int32)), (.int v143)])) t
        refine XS.icmpYes X21.here hx rfl (pc0 := 159) (pc' := 329) rfl (hb hby at_159) rfl (feq hc159).2 (by decide) (by decide) ?_
        exact kt
      exact ⟨_, .unset, .unset, .unset, .unset, .unset, .unset, .unset, _, _, (if_neg hc159).symm, One.u, One.u, One.u, One.u, One.u, One.u, One.u, X21, e21, N21, K78⟩
  obtain ⟨_, _, ⟨T85, L85, k85, n85⟩, -, X85, ⟨Lc85, hQ85, l85, y85, z85⟩, st85⟩ := Jvm.LawKit.callS X81 hx (y := (⟨"com/example/floatline/floatline/io/DateText", "prolepticMonth", "([BII)I"⟩ : MethodName)) hown (mvT hZ (hw _ (List.mem_of_getElem? (i := 9) rfl))) (mvT hZ (hw _ (List.mem_of_getElem? (i := 10) rfl))) (mvT hZ (hw _ (List.mem_of_getElem? (i := 11) rfl))) (mvT hZ (hw _ (List.mem_of_getElem? (i := 12) rfl))) (by decide) (backOf (W := 0) (rm_pmo l Z a0 hw [] b2 v128 v150 f123 a h21 n0 Z21 V21' ha ha3) hZ (hw _ (List.mem_of_getElem? (i := 12) rfl)) (hw _ (List.mem_of_getElem? (i := 11) rfl)) (by decide) (by decide)) (g := (mkF m 335 #[.val (.long q0), .second, .val (.int p1), .val (.int p2), .val (.int p3), .val (.ref b2), .val (.int v128), .val (.int v143), .val (.int v150), .val (.int j329_9_9), o329_10, o329_11, o329_12, o329_13, o329_14, o329_15, o329_16_7] [(.int v150), (.int v128), (.ref b2)])) rfl (by rw [hml]; rfl) (argsL := [(.ref b2), (.int v128), (.int v150)]) (rest := []) (lenOf law_pd2 rfl) rfl (by show 2 * 0 + _ ≤ _; exact Nat.le_of_eq rfl) (hb hby at_335) (fun _ _ => ⟨rfl, e82, (by decide : 1 + 0 ≤ _), (by decide : 10 + 0 ≤ _)⟩)
  dsimp only [Pt.U, Pt.locs, Pt.cells, Pt.slots] at X85 l85 y85 z85 st85 hQ85
  rw [l85, y85, z85] at X85
  obtain ⟨rfl, N85q, e85⟩ := hQ85
  have N85 := Fr.app N83 N85q
  have K86 : ∀ t, Steps p.tables e below (T85.setTop (mkF m 340 #[.val (.long q0), .second, .val (.int p1), .val (.int p2), .val (.int p3), .val (.ref b2), .val (.int v128), .val (.int v143), .val (.int v150), .val (.int j329_9_9), o329_10, o329_11, o329_12, o329_13, o329_14, o329_15, o329_16_7] [(.int j329_9_9), (.int (fPM v128 v150 f123 a))])) t → P0 t := by
    intro t kt
    refine K84 t ?_
    show Steps p.tables e below (T79.setTop (mkF m 329 #[.val (.long q0), .second, .val (.int p1), .val (.int p2), .val (.int p3), .val (.ref b2), .val (.int v128), .val (.int v143), .val (.int v150), .val (.int j329_9_9), o329_10, o329_11, o329_12, o329_13, o329_14, o329_15, o329_16_7] [])) t
    refine XS.aload X81.here hx rfl (hb hby at_329) rfl rfl ?_
    show Steps p.tables e below (T79.setTop (mkF m 331 #[.val (.long q0), .second, .val (.int p1), .val (.int p2), .val (.int p3), .val (.ref b2), .val (.int v128), .val (.int v143), .val (.int v150), .val (.int j329_9_9), o329_10, o329_11, o329_12, o329_13, o329_14, o329_15, o329_16_7] [(.ref b2)])) t
    refine XS.iload X81.here hx rfl (hb hby at_331) rfl ?_
    show Steps p.tables e below (T79.setTop (mkF m 333 #[.val (.long q0), .second, .val (.int p1), .val (.int p2), .val (.int p3), .val (.ref b2), .val (.int v128), .val (.int v143), .val (.int v150), .val (.int j329_9_9), o329_10, o329_11, o329_12, o329_13, o329_14, o329_15, o329_16_7] [(.int v128), (.ref b2)])) t
    refine XS.iload X81.here hx rfl (hb hby at_333) rfl ?_
    show Steps p.tables e below (T79.setTop (mkF m 335 #[.val (.long q0), .second, .val (.int p1), .val (.int p2), .val (.int p3), .val (.ref b2), .val (.int v128), .val (.int v143), .val (.int v150), .val (.int j329_9_9), o329_10, o329_11, o329_12, o329_13, o329_14, o329_15, o329_16_7] [(.int v150), (.int v128), (.ref b2)])) t
    refine st85 _ ?_
    show Steps p.tables e below (T85.setTop (mkF m 338 #[.val (.long q0), .second, .val (.int p1), .val (.int p2), .val (.int p3), .val (.ref b2), .val (.int v128), .val (.int v143), .val (.int v150), .val (.int j329_9_9), o329_10, o329_11, o329_12, o329_13, o329_14, o329_15, o329_16_7] [(.int (fPM v128 v150 f123 a))])) t
    refine XS.iload X85.here hx rfl (hb hby at_338) rfl ?_
    exact kt
  obtain ⟨j348_s0, hj348_s0, K89⟩ : ∃ (j348_s0 : Int32), j348_s0 = (if (fPM v128 v150 f123 a) = j329_9_9 then (1 : Int32) else (0 : Int32)) ∧ ∀ t, Steps p.tables e below (T85.setTop (mkF m 348 #[.val (.long q0), .second, .val (.int p1), .val (.int p2), .val (.int p3), .val (.ref b2), .val (.int v128), .val (.int v143), .val (.int v150), .val (.int j329_9_9), o329_10, o329_11, o329_12, o329_13, o329_14, o329_15, o329_16_7] [(.int j348_s0)])) t → P0 t := by
    by_cases hc340 : (fPM v128 v150 f123 a) = j329_9_9
    · have K87 : ∀ t, Steps p.tables e below (T85.setTop (mkF m 348 #[.val (.long q0), .second, .val (.int p1), .val (.int p2), .val (.int p3), .val (.ref b2), .val (.int v128), .val (.int v143), .val (.int v150), .val (.int j329_9_9), o329_10, o329_11, o329_12, o329_13, o329_14, o329_15, o329_16_7] [(.int (1 : Int32))])) t → P0 t := by
        intro t kt
        refine K86 t ?_
        show Steps p.tables e below (T85.setTop (mkF m 340 #[.val (.long q0), .second, .val (.int p1), .val (.int p2), .val (.int p3), .val (.ref b2), .val (.int v128), .val (.int v143), .val (.int v150), .val (.int j329_9_9), o329_10, o329_11, o329_12, o329_13, o329_14, o329_15, o329_16_7] [(.int j329_9_9), (.int (fPM v128 v150 f123 a))])) t
        refine XS.icmpNo X85.here hx rfl (hb hby at_340) rfl (teq hc340).2 ?_
        show Steps p.tables e below (T85.setTop (mkF m 343 #[.val (.long q0), .second, .val (.int p1), .val (.int p2), .val (.int p3), .val (.ref b2), .val (.int v128), .val (.int v143), .val (.int v150), .val (.int j329_9_9), o329_10, o329_11, o329_12, o329_13, o329_14, o329_15, o329_16_7] [])) t
        refine XS.iconst X85.here hx rfl (hb hby at_343) ?_
        show Steps p.tables e below (T85.setTop (mkF m 344 #[.val (.long q0), .second, .val (.int p1), .val (.int p2), .val (.int p3), .val (.ref b2), .val (.int v128), .val (.int v143), .val (.int v150), .val (.int j329_9_9), o329_10, o329_11, o329_12, o329_13, o329_14, o329_15, o329_16_7] [(.int (1 : Int32))])) t
        refine XS.goto X85.here hx rfl (pc0 := 344) (pc' := 348) rfl (hb hby at_344) (by decide) (by decide) ?_
        exact kt
      exact ⟨_, (if_pos hc340).symm, K87⟩
    · have K88 : ∀ t, Steps p.tables e below (T85.setTop (mkF m 348 #[.val (.long q0), .second, .val (.int p1), .val (.int p2), .val (.int p3), .val (.ref b2), .val (.int v128), .val (.int v143), .val (.int v150), .val (.int j329_9_9), o329_10, o329_11, o329_12, o329_13, o329_14, o329_15, o329_16_7] [(.int (0 : Int32))])) t → P0 t := by
        intro t kt
        refine K86 t ?_
        show Steps p.tables e below (T85.setTop (mkF m 340 #[.val (.long q0), .second, .val (.int p1), .val (.int p2), .val (.int p3), .val (.ref b2), .val (.int v128), .val (.int v143), .val (.int v150), .val (.int j329_9_9), o329_10, o329_11, o329_12, o329_13, o329_14, o329_15, o329_16_7] [(.int j329_9_9), (.int (fPM v128 v150 f123 a))])) t
        refine XS.icmpYes X85.here hx rfl (pc0 := 340) (pc' := 347) rfl (hb hby at_340) rfl (feq hc340).2 (by decide) (by decide) ?_
        show Steps p.tables e below (T85.setTop (mkF m 347 #[.val (.long q0), .second, .val (.int p1), .val (.int p2), .val (.int p3), .val (.ref b2), .val (.int v128), .val (.int v143), .val (.int v150), .val (.int j329_9_9), o329_10, o329_11, o329_12, o329_13, o329_14, o329_15, o329_16_7] [])) t
        refine XS.iconst X85.here hx rfl (hb hby at_347) ?_
        exact kt
      exact ⟨_, (if_neg hc340).symm, K88⟩
  have hres : j348_s0 = 1 := own_plain q0 p1 p2 p3 f2 f16 f27 f38 f49 f60 f71 f84 f97 f110 f123 v128 v143 a v150 j329_9_9 j348_s0 hf2 hf16 hf27 hf38 hf49 hf60 hf71 hf84 hf97 hf110 hf123 hv128 hv143 ha ha3 hv150 hj329_9_9 hj348_s0
  obtain ⟨fs, hr, hrun, hended, hW, hsame⟩ := X85.leave (v := some (.int (1 : Int32))) (fun h => by rw [Bd.returns] at h; cases h)
  refine ⟨_, _, ?_, hrun, hended, _, _, rfl, ?_, ⟨_, rfl⟩, hW, hsame.mono (by decide) (by decide)⟩
  · rw [hres] at K89
    have q := K89 _ (retN X85 hx (t := .boolean) Bd.returns (by simp) (hb hby at_348) hr)
    rw [hP0] at q; exact q
  · exact ⟨rfl, N85⟩
set_option maxRecDepth 65536 in
set_option maxHeartbeats 40000000 in
theorem comes_1 {Post : Tables → Env → Array Value → State → Outcome → State → Prop} (hpost : ∀ tb e args s v u, (limb_1_1.after args s (.returned v) u = true ∧ limb_1_2.after args s (.returned v) u = true ∧ True) → FrameEnd s (.returned v) u (Jvm.fieldLocs frame_1_writes args s ++ Jvm.arrayLocs frame_1_arrays args s ++ Jvm.staticLocs frame_1_statics s) 16 128 → Post tb e args s (.returned v) u) :
    ArmFor flags0 classFile x code maxLocals ret World_1 tables_1 room_1 Calls_1 rest_1 Pre_1 Post := by
  intro l hfl _ _ p e ha hc hk s m args below hf hA hF happ hP
  obtain ⟨hcalls, hrest, hpre⟩ := hP
  obtain ⟨-, -, -, hnamed, -, -, -, hat⟩ := (Spec.applies_iff hf).mp happ
  obtain ⟨hg, hn⟩ := and_e (Cond.before_iff.mp (show (Jvm.Cond.and given_1 narrow_1).before args s = true from hpre))
  obtain ⟨gc, gr0⟩ := and_e hg
  obtain ⟨ga0, gr1⟩ := and_e gr0
  obtain ⟨ga1, gr2⟩ := and_e gr1
  obtain ⟨ga2, gr3⟩ := and_e gr2
  obtain ⟨w0, w1, w2, w3, rfl⟩ : ∃ w0 w1 w2 w3 : Value, args = #[w0, w1, w2, w3] := by
    have hs : args.size = 4 := by simpa [Cond.value, given_1] using gc
    obtain ⟨L⟩ := args
    match L, hs with
    | [w0, w1, w2, w3], _ => exact ⟨w0, w1, w2, w3, rfl⟩
  have hw := fun d (hd : d ∈ tables_1) => atoms_spec (ws := Jvm.Cond.code x code maxLocals ret :: tables_1) hat d (List.mem_cons_of_mem _ hd)
  obtain ⟨i0, ei0⟩ := isL_v ga0
  obtain rfl : w0 = (.long i0) := Option.some.inj ei0
  obtain ⟨i1, ei1⟩ := is_v ga1
  obtain rfl : w1 = (.int i1) := Option.some.inj ei1
  obtain ⟨i2, ei2⟩ := is_v ga2
  obtain rfl : w2 = (.int i2) := Option.some.inj ei2
  obtain ⟨i3, ei3⟩ := is_v gr3
  obtain rfl : w3 = (.int i3) := Option.some.inj ei3
  obtain ⟨n, o, h1, h2, h3, _, L, rfl, ⟨rfl, N⟩, hq⟩ := rm_law l s _ hw tables_1 i0 i1 i2 i3 s.heap s.heap.size (Nat.le_refl _) p e ha hc hk s m _ below hf ((Spec.applies_iff_loose hf).mp happ).1 ⟨rfl, State.Warmed39.refl s, rfl⟩ trivial
  refine ⟨n, _, h1, h2, h3, hpost _ _ _ _ _ _ ⟨Cond.after_iff.mpr rfl, Cond.after_iff.mpr (eq_i res_at (Term.int_eval (1)) rfl), trivial⟩ ⟨hq.1, hq.2.1, (hq.2.2.sift fun y hy => Or.inr (N y hy)).mono (by decide) (by decide)⟩⟩
theorem main_1_1 : Claimed_1_1 := comes_1 fun _ _ _ _ _ _ h hF => ⟨h.1, hF⟩
theorem main_1_2 : Claimed_1_2 := comes_1 fun _ _ _ _ _ _ h hF => ⟨h.2.1, hF⟩
end Jvm.Pilot.@@N@@
namespace Jvm.Pilot.@@N@@
open Jvm Jvm.ClassFile Sem Op Lib Jvm.Free Jvm.Stand Jvm.Pilot.@@N@@.Jvm.D
/-! MADE BY PROGRAM (witnessworld.py) out of the Statement's table words and the real class files: 9 classes; the members and pool entries that the words name. The judged class is class 1, her method 1. -/
namespace start1
open Jvm.ClassFile
def u (s : String) : CpInfo := .utf8 (stringToUtf16 s)
/-- a pool by its gaps: so many unusable entries, then the entry; so many at the end -/
def gap : Nat → List CpInfo → List CpInfo
  | 0, r => r
  | n + 1, r => .unusable :: gap n r
def poolList (es : List (Nat × CpInfo)) (last : Nat) : List CpInfo := es.foldr (fun e r => gap e.1 (e.2 :: r)) (gap last [])
def pool (es : List (Nat × CpInfo)) (last : Nat) : Array CpInfo := ⟨poolList es last⟩
def fileOf (pool : Array CpInfo) (this : Nat) (attrs : Array Attribute := #[]) (ms : Array MethodInfo := #[]) (fl : Nat := 33) (sup : Nat := 0) (ifs : Array Nat := #[]) (fds : Array FieldInfo := #[]) : ClassFile where
  minorVersion := 0
  majorVersion := 65
  constantPool := pool
  accessFlags := fl
  thisClass := this
  superClass := sup
  interfaces := ifs
  fields := fds
  methods := ms
  attributes := attrs
def plain (name : String) (sup : Option ClassId) : Class where
  name := name
  kind := .ordinary
  loader := none
  accessFlags := 33
  super := sup
  interfaces := #[]
  cf := none
  fields := #[]
  methods := #[]
  instanceTypes := #[]
  staticTypes := #[]
  resolved := #[]
  callSites := []
  init := .initialized
  statics := none
  mirror := none

def pool0 : Array CpInfo := pool [(5, u "<init>"), (0, u "()V"), (1, .class_ 10), (1, u "java/lang/Object")] 113

def k0m0 : Method := { name := "<init>", desc := "()V", sig := { parameters := [], returnType := none }, accessFlags := 1, code := none }
/-- java/lang/Object -/
def k0 : Class := { plain "java/lang/Object" none with
  accessFlags := 33
  interfaces := #[]
  cf := some (fileOf pool0 8 #[] #[{ accessFlags := 1, nameIndex := 5, descriptorIndex := 6, attributes := #[] }] 33 0 #[] #[])
  fields := #[]
  methods := #[k0m0]
  instanceTypes := #[]
  staticTypes := #[]
  resolved := Array.replicate 124 none
  statics := none }

def pool1 : Array CpInfo := pool [(2, .class_ 4), (1, u "java/lang/Object"), (0, u "<init>"), (0, u "()V"), (0, .methodref 8 9), (0, .class_ 10), (0, .nameAndType 11 12), (0, u "com/example/floatline/floatline/io/DateTextProlepticMonthPinLaw"), (0, u "pick"), (0, u "(JIII)B"), (0, .integer 65535), (0, .methodref 8 15), (0, .nameAndType 16 17), (0, u "dig"), (0, u "(B)I"), (0, .methodref 19 20), (0, .class_ 21), (0, .nameAndType 22 23), (0, u "com/example/floatline/floatline/io/DateText"), (0, u "prolepticMonth"), (0, u "([BII)I"), (0, .methodref 8 25), (0, .nameAndType 26 27), (0, u "raw"), (0, u "(JII)B"), (2, u "law"), (0, u "(JIII)Z")] 5

def k1m0 : Method := { name := "<init>", desc := "()V", sig := { parameters := [], returnType := none }, accessFlags := 2, code := none }
def k1c1 : Code := { maxStack := 7, maxLocals := 17, code := code, exceptionTable := #[], attributes := #[] }
def k1m1 : Method := { name := "law", desc := "(JIII)Z", sig := { parameters := [.long, .int, .int, .int], returnType := some .boolean }, accessFlags := 9, code := some k1c1 }
def k1c2 : Code := { maxStack := 4, maxLocals := 4, code := method_3_code, exceptionTable := #[], attributes := #[] }
def k1m2 : Method := { name := "raw", desc := "(JII)B", sig := { parameters := [.long, .int, .int], returnType := some .byte }, accessFlags := 10, code := some k1c2 }
def k1c3 : Code := { maxStack := 4, maxLocals := 7, code := method_4_code, exceptionTable := #[], attributes := #[] }
def k1m3 : Method := { name := "pick", desc := "(JIII)B", sig := { parameters := [.long, .int, .int, .int], returnType := some .byte }, accessFlags := 10, code := some k1c3 }
def k1c4 : Code := { maxStack := 2, maxLocals := 1, code := method_5_code, exceptionTable := #[], attributes := #[] }
def k1m4 : Method := { name := "dig", desc := "(B)I", sig := { parameters := [.byte], returnType := some .int }, accessFlags := 10, code := some k1c4 }
/-- com/example/floatline/floatline/io/DateTextProlepticMonthPinLaw -/
def k1 : Class := { plain "com/example/floatline/floatline/io/DateTextProlepticMonthPinLaw" (some 0) with
  accessFlags := 49
  interfaces := #[]
  cf := some (fileOf pool1 8 #[] #[{ accessFlags := 2, nameIndex := 5, descriptorIndex := 6, attributes := #[] }, { accessFlags := 9, nameIndex := 30, descriptorIndex := 31, attributes := #[] }, { accessFlags := 10, nameIndex := 26, descriptorIndex := 27, attributes := #[] }, { accessFlags := 10, nameIndex := 11, descriptorIndex := 12, attributes := #[] }, { accessFlags := 10, nameIndex := 16, descriptorIndex := 17, attributes := #[] }] 49 2 #[] #[])
  fields := #[]
  methods := #[k1m0, k1m1, k1m2, k1m3, k1m4]
  instanceTypes := #[]
  staticTypes := #[]
  resolved := Array.replicate 37 none
  statics := none }

def pool2 : Array CpInfo := pool [(2, .class_ 4), (1, u "java/lang/Object"), (0, u "<init>"), (0, u "()V"), (13, .class_ 22), (1, u "com/example/floatline/floatline/io/DateText"), (0, u "prolepticMonth"), (0, u "([BII)I"), (14, .methodref 20 40), (0, .nameAndType 41 24), (0, u "digits"), (13, u "MONTH_FORM"), (0, u "Ljava/lang/String;"), (3, u "DATE_FORM"), (2, u "MONTH_LENGTH"), (0, u "I"), (1, u "DATE_LENGTH"), (1, u "MONTHS_IN_YEAR")] 16

def k2m0 : Method := { name := "<init>", desc := "()V", sig := { parameters := [], returnType := none }, accessFlags := 2, code := none }
def k2c1 : Code := { maxStack := 4, maxLocals := 5, code := prog_17_method_3_code, exceptionTable := #[], attributes := #[] }
def k2m1 : Method := { name := "prolepticMonth", desc := "([BII)I", sig := { parameters := [(.array .byte), .int, .int], returnType := some .int }, accessFlags := 8, code := some k2c1 }
def k2c2 : Code := { maxStack := 2, maxLocals := 6, code := prog_17_method_6_code, exceptionTable := #[], attributes := #[] }
def k2m2 : Method := { name := "digits", desc := "([BII)I", sig := { parameters := [(.array .byte), .int, .int], returnType := some .int }, accessFlags := 10, code := some k2c2 }
/-- com/example/floatline/floatline/io/DateText -/
def k2 : Class := { plain "com/example/floatline/floatline/io/DateText" (some 0) with
  accessFlags := 49
  interfaces := #[]
  cf := some (fileOf pool2 20 #[] #[{ accessFlags := 2, nameIndex := 5, descriptorIndex := 6, attributes := #[] }, { accessFlags := 8, nameIndex := 23, descriptorIndex := 24, attributes := #[] }, { accessFlags := 10, nameIndex := 41, descriptorIndex := 24, attributes := #[] }] 49 2 #[] #[{ accessFlags := 25, nameIndex := 55, descriptorIndex := 56, attributes := #[] }, { accessFlags := 25, nameIndex := 60, descriptorIndex := 56, attributes := #[] }, { accessFlags := 26, nameIndex := 63, descriptorIndex := 64, attributes := #[] }, { accessFlags := 26, nameIndex := 66, descriptorIndex := 64, attributes := #[] }, { accessFlags := 26, nameIndex := 68, descriptorIndex := 64, attributes := #[] }])
  fields := #[{ name := "MONTH_FORM", type := (.object "java/lang/String"), accessFlags := 25, slot := 0, constantValue := 0 }, { name := "DATE_FORM", type := (.object "java/lang/String"), accessFlags := 25, slot := 1, constantValue := 0 }, { name := "MONTH_LENGTH", type := .int, accessFlags := 26, slot := 2, constantValue := 0 }, { name := "DATE_LENGTH", type := .int, accessFlags := 26, slot := 3, constantValue := 0 }, { name := "MONTHS_IN_YEAR", type := .int, accessFlags := 26, slot := 4, constantValue := 0 }]
  methods := #[k2m0, k2m1, k2m2]
  instanceTypes := #[]
  staticTypes := #[(.object "java/lang/String"), (.object "java/lang/String"), .int, .int, .int]
  resolved := Array.replicate 85 none
  statics := none }

def pool3 : Array CpInfo := pool [(1, u "java/lang/Cloneable"), (0, .class_ 1), (0, u "java/lang/Object"), (0, .class_ 3)] 3

/-- java/lang/Cloneable -/
def k3 : Class := { plain "java/lang/Cloneable" (some 0) with
  accessFlags := 1537
  interfaces := #[]
  cf := some (fileOf pool3 2 #[] #[] 1537 4 #[] #[])
  fields := #[]
  methods := #[]
  instanceTypes := #[]
  staticTypes := #[]
  resolved := Array.replicate 8 none
  statics := none }

def pool4 : Array CpInfo := pool [(1, u "java/io/Serializable"), (0, .class_ 1), (0, u "java/lang/Object"), (0, .class_ 3)] 3

/-- java/io/Serializable -/
def k4 : Class := { plain "java/io/Serializable" (some 0) with
  accessFlags := 1537
  interfaces := #[]
  cf := some (fileOf pool4 2 #[] #[] 1537 4 #[] #[])
  fields := #[]
  methods := #[]
  instanceTypes := #[]
  staticTypes := #[]
  resolved := Array.replicate 8 none
  statics := none }

/-- the primitive byte -/
def k5 : Class := { plain "byte" none with kind := .primitive 'B', accessFlags := 0x411 }
/-- [B -/
def k6 : Class := { plain "[B" (some 0) with kind := .array 5 .byte, interfaces := #[3, 4], accessFlags := 1041 }

/-- the primitive int -/
def k7 : Class := { plain "int" none with kind := .primitive 'I', accessFlags := 0x411 }
/-- [I -/
def k8 : Class := { plain "[I" (some 0) with kind := .array 7 .int, interfaces := #[3, 4], accessFlags := 1041 }

def heap : Heap := #[]
def classes : Array Class := #[k0, k1, k2, k3, k4, k5, k6, k7, k8]
def interned : List (Array UInt16 × Addr) := []
def slotsUsed : Nat := 0
def theMethod : MethodId := ⟨1, 1⟩
def args0 : Array Value := #[.long 5, .int 300, .int 7, .int 9]
def aboutOver (below : List Frame) : State where
  vm := { classes := classes, interned := interned.toArray }
  heap := heap
  slotsUsed := slotsUsed
  threads := #[{ frames := .invoking theMethod args0 :: below }]
def below0 : List Frame := [.native { method := ⟨0, 0⟩, args := #[] }]
def about1 : State := aboutOver below0
def p0 : Program := .bare "" "" ""
def e0 : Env := launch0.env 0 0 0
theorem w_frames : about1.frames = Frame.invoking theMethod args0 :: below0 := rfl
set_option maxRecDepth 65536 in
theorem w_args : argsFit about1.vm theMethod args0 = true := by decide +kernel
set_option maxRecDepth 65536 in
theorem w_heap : heapFits about1 = true := by decide +kernel
set_option maxRecDepth 65536 in
theorem w_runnable : about1.curStatus? = some .runnable := by decide +kernel
set_option maxRecDepth 65536 in
theorem w_alone : about1.alone = true := by decide +kernel
set_option maxRecDepth 65536 in
theorem w_named : about1.methodNamed? x = some theMethod := by decide +kernel
set_option maxRecDepth 65536 in
theorem w_hears : about1.hears theMethod below0 = true := by decide +kernel
set_option maxRecDepth 65536 in
theorem w_ripe : about1.ripe theMethod args0 below0 = true := by decide +kernel
theorem w_running : about1.status = .running := rfl
set_option maxRecDepth 65536 in
theorem w_room : about1.hasRoom e0.platform room_1 = true :=
  launch0.hasRoom_least _ room_1 (by decide +kernel) (by decide +kernel) (by decide +kernel) (by decide +kernel) (by decide +kernel) (by decide +kernel)
theorem allAtoms_all (ts : List Jvm.Cond) (a : Array Jvm.Value) (st : Jvm.State) : (allAtoms ts).before a st = ts.all (fun c => c.before a st) := by
  induction ts with
  | nil => rfl
  | cons c t ih =>
    show (Jvm.Cond.and c (allAtoms t)).before a st = _
    rw [Jvm.Cond.before_and, ih, List.all_cons]
def words1 : List Jvm.Cond := Jvm.Cond.code x code maxLocals ret :: tables_1
/-- a 'code' word, met by the world's own term for the bytes: nothing is compared byte by byte -/
theorem code_word {y : MethodName} {bytes : ByteArray} {mx : Nat} {rt : Option FieldType} {a : Array Value} {s : State} {m : MethodId} {meth : Method} {c : Code} (h1 : s.methodNamed? y = some m) (h2 : s.vm.method? m = some meth) (h3 : meth.code = some c) (h4 : c.code = bytes)
    (h5 : (c.maxLocals == mx && c.exceptionTable.isEmpty && decide (c.maxStack ≤ mostOperands) && decide (meth.sig.returnType = rt) && !meth.locks && decide (parseMethodDescriptor y.desc = some meth.sig)) = true) : (Jvm.Cond.code y bytes mx rt).before a s = true := by
  simp only [Bool.and_eq_true, beq_iff_eq, Bool.not_eq_true', decide_eq_true_eq] at h5
  obtain ⟨⟨⟨⟨⟨g1, g2⟩, g3⟩, g4⟩, g5⟩, g6⟩ := h5
  simp [Cond.before, Cond.holds, Cond.value, h1, h2, h3, h4, g1, g2, g3, g4, g5, g6]
def isCode : Jvm.Cond → Bool
  | .code _ _ _ _ => true
  | _ => false
theorem all_split {L : List Jvm.Cond} {P : Jvm.Cond → Bool} (h1 : L.all (fun c => isCode c || P c) = true) (h2 : ∀ c ∈ L.filter isCode, P c = true) : L.all P = true := by
  refine List.all_eq_true.mpr fun c hc => ?_
  have h := List.all_eq_true.mp h1 c hc
  rcases Bool.eq_false_or_eq_true (isCode c) with hi | hi
  · exact h2 c (List.mem_filter.mpr ⟨hc, hi⟩)
  · simpa [hi] using h
set_option maxRecDepth 65536 in
theorem w_c0 : (Jvm.Cond.code x code maxLocals ret).before args0 about1 = true := code_word (m := ⟨1, 1⟩) (meth := k1m1) (c := k1c1) (by decide +kernel) rfl rfl rfl (by decide +kernel)
set_option maxRecDepth 65536 in
theorem w_c1 : (Jvm.Cond.code ({ cls := "com/example/floatline/floatline/io/DateTextProlepticMonthPinLaw", name := "pick", desc := "(JIII)B" } : Jvm.MethodName) method_4_code (7 : Nat) (Option.some Jvm.ClassFile.FieldType.byte)).before args0 about1 = true := code_word (m := ⟨1, 3⟩) (meth := k1m3) (c := k1c3) (by decide +kernel) rfl rfl rfl (by decide +kernel)
set_option maxRecDepth 65536 in
theorem w_c2 : (Jvm.Cond.code ({ cls := "com/example/floatline/floatline/io/DateTextProlepticMonthPinLaw", name := "raw", desc := "(JII)B" } : Jvm.MethodName) method_3_code (4 : Nat) (Option.some Jvm.ClassFile.FieldType.byte)).before args0 about1 = true := code_word (m := ⟨1, 2⟩) (meth := k1m2) (c := k1c2) (by decide +kernel) rfl rfl rfl (by decide +kernel)
set_option maxRecDepth 65536 in
theorem w_c3 : (Jvm.Cond.code ({ cls := "com/example/floatline/floatline/io/DateText", name := "prolepticMonth", desc := "([BII)I" } : Jvm.MethodName) prog_17_method_3_code (5 : Nat) (Option.some Jvm.ClassFile.FieldType.int)).before args0 about1 = true := code_word (m := ⟨2, 1⟩) (meth := k2m1) (c := k2c1) (by decide +kernel) rfl rfl rfl (by decide +kernel)
set_option maxRecDepth 65536 in
theorem w_c4 : (Jvm.Cond.code ({ cls := "com/example/floatline/floatline/io/DateTextProlepticMonthPinLaw", name := "dig", desc := "(B)I" } : Jvm.MethodName) method_5_code (1 : Nat) (Option.some Jvm.ClassFile.FieldType.int)).before args0 about1 = true := code_word (m := ⟨1, 4⟩) (meth := k1m4) (c := k1c4) (by decide +kernel) rfl rfl rfl (by decide +kernel)
set_option maxRecDepth 65536 in
theorem w_c5 : (Jvm.Cond.code ({ cls := "com/example/floatline/floatline/io/DateText", name := "digits", desc := "([BII)I" } : Jvm.MethodName) prog_17_method_6_code (6 : Nat) (Option.some Jvm.ClassFile.FieldType.int)).before args0 about1 = true := code_word (m := ⟨2, 2⟩) (meth := k2m2) (c := k2c2) (by decide +kernel) rfl rfl rfl (by decide +kernel)
def codes1 : List Jvm.Cond := [Jvm.Cond.code x code maxLocals ret, Jvm.Cond.code ({ cls := "com/example/floatline/floatline/io/DateTextProlepticMonthPinLaw", name := "pick", desc := "(JIII)B" } : Jvm.MethodName) method_4_code (7 : Nat) (Option.some Jvm.ClassFile.FieldType.byte), Jvm.Cond.code ({ cls := "com/example/floatline/floatline/io/DateTextProlepticMonthPinLaw", name := "raw", desc := "(JII)B" } : Jvm.MethodName) method_3_code (4 : Nat) (Option.some Jvm.ClassFile.FieldType.byte), Jvm.Cond.code ({ cls := "com/example/floatline/floatline/io/DateText", name := "prolepticMonth", desc := "([BII)I" } : Jvm.MethodName) prog_17_method_3_code (5 : Nat) (Option.some Jvm.ClassFile.FieldType.int), Jvm.Cond.code ({ cls := "com/example/floatline/floatline/io/DateTextProlepticMonthPinLaw", name := "dig", desc := "(B)I" } : Jvm.MethodName) method_5_code (1 : Nat) (Option.some Jvm.ClassFile.FieldType.int), Jvm.Cond.code ({ cls := "com/example/floatline/floatline/io/DateText", name := "digits", desc := "([BII)I" } : Jvm.MethodName) prog_17_method_6_code (6 : Nat) (Option.some Jvm.ClassFile.FieldType.int)]
set_option maxRecDepth 65536 in
theorem codes_eq : words1.filter isCode = codes1 := rfl
theorem w_codes : ∀ c ∈ words1.filter isCode, c.before args0 about1 = true := by
  rw [codes_eq]
  intro c hc
  simp only [codes1, List.mem_cons, List.not_mem_nil, or_false] at hc
  rcases hc with rfl | rfl | rfl | rfl | rfl | rfl
  · exact w_c0
  · exact w_c1
  · exact w_c2
  · exact w_c3
  · exact w_c4
  · exact w_c5
set_option maxRecDepth 65536 in
theorem w_t1 : words1.all (fun c => isCode c || c.before args0 about1) = true := by decide +kernel
theorem w_tables : (allAtoms (Jvm.Cond.code x code maxLocals ret :: tables_1)).before args0 about1 = true := by
  rw [allAtoms_all]
  show words1.all (fun c => c.before args0 about1) = true
  refine all_split ?_ w_codes
  rw [w_t1]
set_option maxRecDepth 65536 in
theorem w_case : (Jvm.Cond.and given_1 narrow_1).before args0 about1 = true := by decide +kernel
theorem w_applies : (headSpec (Jvm.Cond.code x code maxLocals ret :: tables_1) room_1).applies x e0.platform about1 = true :=
  (Spec.applies_iff w_frames).mpr ⟨w_running, w_runnable, w_alone, w_named, w_hears, w_ripe, w_room, w_tables⟩
theorem atStart : AtStart classFile x code maxLocals ret World_1 tables_1 room_1 Calls_1 rest_1 Pre_1 launch0 p0 e0 about1 theMethod args0 below0 :=
  ⟨lists_1, trivial, launch0.admits_env _ _ _, launch0.least_env, fairChoices_fair.cas, fairChoices_fair.clock, w_frames, w_args, w_heap, w_applies, trivial, trivial, w_case⟩
end start1
theorem witness_1 : WitnessClaimed_1 := ⟨start1.p0, start1.e0, start1.about1, start1.theMethod, start1.args0, start1.below0, start1.atStart⟩
end Jvm.Pilot.@@N@@
