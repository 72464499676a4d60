import JvmDerived
import JvmDerived.Pilot.@@N@@Statement
import JvmDerived.Pilot.@@N@@Code
set_option linter.unusedVariables false
set_option linter.unusedSimpArgs false
namespace Jvm.Pilot.@@N@@
open Jvm Jvm.ClassFile Sem Op Lib Jvm.Free Jvm.Stand Jvm.LawKit Jvm.RoadKit Bundle Jvm.Pilot.@@N@@.Jvm.D
/-! my own small laws: arrays by a function of the place; returns -/
def IA (Z : State) (h : Heap) (a : Addr) (ty : FieldType) (n : Nat) (f : Nat → Int32) : Prop :=
  ∃ c : Cell, Arr Z h a c ty ∧ c.slots.size = n ∧ ∀ j, j < n → c.slots[j]? = some (.int (f j)) ∧ fits ty (.int (f j)) = true
def JA (Z : State) (h : Heap) (a : Addr) (n : Nat) (f : Nat → Int64) : Prop :=
  ∃ c : Cell, Arr Z h a c .long ∧ c.slots.size = n ∧ ∀ j, j < n → c.slots[j]? = some (.long (f j))
def upd (f : Nat → Int32) (i : Nat) (v : Int32) : Nat → Int32 := fun j => if j = i then v else f j
def updJ (f : Nat → Int64) (i : Nat) (v : Int64) : Nat → Int64 := fun j => if j = i then v else f j
def QP (r : Value) (h0 : Heap) (n0 : Nat) (v : Option Value) (h : Heap) (L : List Loc) : Prop := v = some r ∧ Fr n0 L ∧ h = h0
def QL (n0 : Nat) (v : Option Value) (h : Heap) (L : List Loc) : Prop := v = some (.int 1) ∧ Fr n0 L
section Own
variable {p : Program} {l : Launch} {e : Env} {R : Room} {s : State} {m : MethodId} {args : Array Value} {below : List Frame} {meth : Method} {c : Code} {T : State} {locs : List Loc} {cells slots : Nat} {Z : State} {h h' : Heap} {a b : Addr} {ty : FieldType} {n : Nat} {f : Nat → Int32} {fJ : Nat → Int64} {sl : Nat} {v : Value} {wl : List Addr}
theorem IA.lt (F : IA Z h a ty n f) : a < h.size := by obtain ⟨c, A, -⟩ := F; exact A.lt
theorem IA.ext (F : IA Z h a ty n f) (E : Ext h h') : IA Z h' a ty n f := by obtain ⟨c, A, r⟩ := F; exact ⟨c, A.ext E, r⟩
theorem IA.other (F : IA Z h b ty n f) (W : Wr h h' a sl v) (q : b ≠ a) : IA Z h' b ty n f := by obtain ⟨c, A, r⟩ := F; exact ⟨c, A.other W q, r⟩
theorem IA.keep (F : IA Z h a ty n f) (K : Keep h h' wl) (q : a ∉ wl) : IA Z h' a ty n f := by obtain ⟨c, A, r⟩ := F; exact ⟨c, ⟨K.2.1 a c A.1 q, A.2⟩, r⟩
theorem IA.new {k : ClassId} {z : Int32} (A : Arr Z h a (newA k ty z) ty) (hd : defaultValue ty = .int 0) (hf : fits ty (.int 0) = true) (hz : z.toNatClampNeg = n) : IA Z h a ty n (fun _ => 0) := by
  refine ⟨_, A, by rw [sz_new, hz], fun j hj => ⟨?_, hf⟩⟩
  have : j < z.toNatClampNeg := by rw [hz]; exact hj
  simp [newA, hd, this]
theorem IA.set {c : Cell} (A : Arr Z h a c ty) (S : c.slots.size = n) (H : ∀ j, j < n → c.slots[j]? = some (.int (f j)) ∧ fits ty (.int (f j)) = true) {x : Int32} (hv : fits ty (.int x) = true) {i : Nat} (W : Wr h h' a i (.int x)) (hi : i < n) : IA Z h' a ty n (upd f i x) := by
  refine ⟨_, A.same W, by rw [sz_set, S], fun j hj => ?_⟩
  unfold upd
  by_cases q : j = i
  · subst q; simp [Cell.setSlot, S, hi, hv]
  · have := H j hj
    rw [if_neg q]
    refine ⟨?_, this.2⟩
    rw [← this.1]
    show (c.slots.setIfInBounds i (.int x))[j]? = _
    exact Array.getElem?_setIfInBounds_ne (Ne.symm q)
theorem JA.lt (F : JA Z h a n fJ) : a < h.size := by obtain ⟨c, A, -⟩ := F; exact A.lt
theorem JA.ext (F : JA Z h a n fJ) (E : Ext h h') : JA Z h' a n fJ := by obtain ⟨c, A, r⟩ := F; exact ⟨c, A.ext E, r⟩
theorem JA.other (F : JA Z h b n fJ) (W : Wr h h' a sl v) (q : b ≠ a) : JA Z h' b n fJ := by obtain ⟨c, A, r⟩ := F; exact ⟨c, A.other W q, r⟩
theorem JA.keep (F : JA Z h a n fJ) (K : Keep h h' wl) (q : a ∉ wl) : JA Z h' a n fJ := by obtain ⟨c, A, r⟩ := F; exact ⟨c, ⟨K.2.1 a c A.1 q, A.2⟩, r⟩
theorem JA.new {k : ClassId} {z : Int32} (A : Arr Z h a (newA k .long z) .long) (hz : z.toNatClampNeg = n) : JA Z h a n (fun _ => 0) := by
  refine ⟨_, A, by rw [sz_new, hz], fun j hj => ?_⟩
  have : j < z.toNatClampNeg := by rw [hz]; exact hj
  simp [newA, defaultValue, this]
theorem JA.set {c : Cell} (A : Arr Z h a c .long) (S : c.slots.size = n) (H : ∀ j, j < n → c.slots[j]? = some (.long (fJ j))) {x : Int64} {i : Nat} (W : Wr h h' a i (.long x)) (hi : i < n) : JA Z h' a n (updJ fJ i x) := by
  refine ⟨_, A.same W, by rw [sz_set, S], fun j hj => ?_⟩
  unfold updJ
  by_cases q : j = i
  · subst q; simp [Cell.setSlot, S, hi]
  · rw [if_neg q, ← H j hj]
    show (c.slots.setIfInBounds i (.long x))[j]? = _
    exact Array.getElem?_setIfInBounds_ne (Ne.symm q)
theorem stBA (X : Stand p l e R s m args below meth c T locs cells slots) (hx : p.tables.exec = Jvm.exec) (hZ : Z.Warmed39 s.vm) (eT : T.heap = h) (V : IA Z h a .byte n f) {j x : Int32} (hj : ¬ (j < 0 ∨ n ≤ j.toNatClampNeg)) {g : JFrame} (hg : g.method = m) {rest : List Value} (hs : g.stack = .int x :: .int j :: .ref a :: rest) (hd : decode c.code g.pc = .ok (.bastore, 1)) :
    ∃ T' h', Stand p l e R s m args below meth c T' (locs ++ [⟨a, j.toNatClampNeg⟩]) cells slots ∧ T'.heap = h' ∧ (∃ sl v, Wr h h' a sl v) ∧ IA Z h' a .byte n (upd f j.toNatClampNeg (nar .byte x)) ∧ ∀ target, Steps p.tables e below (T'.setTop { g with pc := g.pc + 1, stack := rest }) target → Steps p.tables e below (T.setTop g) target := by
  obtain ⟨cl, A, S, H⟩ := V
  obtain ⟨T', h', X', e', W, st⟩ := stB X hx hZ eT A (j := j) (x := x) (by rw [S]; exact hj) hg hs hd
  exact ⟨T', h', X', e', ⟨_, _, W⟩, IA.set A S H (fits_nar_byte _) W (Nat.lt_of_not_le fun q => hj (Or.inr q)), st⟩
theorem stIA (X : Stand p l e R s m args below meth c T locs cells slots) (hx : p.tables.exec = Jvm.exec) (hZ : Z.Warmed39 s.vm) (eT : T.heap = h) (V : IA Z h a .int n f) {j x : Int32} (hj : ¬ (j < 0 ∨ n ≤ j.toNatClampNeg)) {g : JFrame} (hg : g.method = m) {rest : List Value} (hs : g.stack = .int x :: .int j :: .ref a :: rest) (hd : decode c.code g.pc = .ok (.iastore, 1)) :
    ∃ T' h', Stand p l e R s m args below meth c T' (locs ++ [⟨a, j.toNatClampNeg⟩]) cells slots ∧ T'.heap = h' ∧ (∃ sl v, Wr h h' a sl v) ∧ IA Z h' a .int n (upd f j.toNatClampNeg x) ∧ ∀ target, Steps p.tables e below (T'.setTop { g with pc := g.pc + 1, stack := rest }) target → Steps p.tables e below (T.setTop g) target := by
  obtain ⟨cl, A, S, H⟩ := V
  obtain ⟨T', h', X', e', W, st⟩ := stI X hx hZ eT A (j := j) (x := x) (by rw [S]; exact hj) hg hs hd
  exact ⟨T', h', X', e', ⟨_, _, W⟩, IA.set A S H rfl W (Nat.lt_of_not_le fun q => hj (Or.inr q)), st⟩
theorem stJA (X : Stand p l e R s m args below meth c T locs cells slots) (hx : p.tables.exec = Jvm.exec) (hZ : Z.Warmed39 s.vm) (eT : T.heap = h) (V : JA Z h a n fJ) {j : Int32} {x : Int64} (hj : ¬ (j < 0 ∨ n ≤ j.toNatClampNeg)) {g : JFrame} (hg : g.method = m) {rest : List Value} (hs : g.stack = .long x :: .int j :: .ref a :: rest) (hd : decode c.code g.pc = .ok (.lastore, 1)) :
    ∃ T' h', Stand p l e R s m args below meth c T' (locs ++ [⟨a, j.toNatClampNeg⟩]) cells slots ∧ T'.heap = h' ∧ (∃ sl v, Wr h h' a sl v) ∧ JA Z h' a n (updJ fJ j.toNatClampNeg x) ∧ ∀ target, Steps p.tables e below (T'.setTop { g with pc := g.pc + 1, stack := rest }) target → Steps p.tables e below (T.setTop g) target := by
  obtain ⟨cl, A, S, H⟩ := V
  obtain ⟨T', h', X', e', W, st⟩ := stJ X hx hZ eT A (j := j) (x := x) (by rw [S]; exact hj) hg hs hd
  exact ⟨T', h', X', e', ⟨_, _, W⟩, JA.set A S H W (Nat.lt_of_not_le fun q => hj (Or.inr q)), st⟩
theorem ldBA (X : Stand p l e R s m args below meth c T locs cells slots) (hx : p.tables.exec = Jvm.exec) (hZ : Z.Warmed39 s.vm) (eT : T.heap = h) (V : IA Z h a .byte n f) {j : Int32} (hj : ¬ (j < 0 ∨ n ≤ j.toNatClampNeg)) {g : JFrame} (hg : g.method = m) {rest : List Value} (hs : g.stack = .int j :: .ref a :: rest) (hd : decode c.code g.pc = .ok (.baload, 1)) :
    ∀ target, Steps p.tables e below (T.setTop { g with pc := g.pc + 1, stack := .int (f j.toNatClampNeg) :: rest }) target → Steps p.tables e below (T.setTop g) target := by
  obtain ⟨cl, A, S, H⟩ := V
  exact X.baloadBytes hx (by rw [eT]; exact A.1) (State.isArrayOf_alike hZ.alike A.2.1) A.2.2 (by rw [S]; exact hj) (H _ (Nat.lt_of_not_le fun q => hj (Or.inr q))).1 hg hs hd
theorem ldIA (X : Stand p l e R s m args below meth c T locs cells slots) (hx : p.tables.exec = Jvm.exec) (hZ : Z.Warmed39 s.vm) (eT : T.heap = h) (V : IA Z h a .int n f) {j : Int32} (hj : ¬ (j < 0 ∨ n ≤ j.toNatClampNeg)) {g : JFrame} (hg : g.method = m) {rest : List Value} (hs : g.stack = .int j :: .ref a :: rest) (hd : decode c.code g.pc = .ok (.iaload, 1)) :
    ∀ target, Steps p.tables e below (T.setTop { g with pc := g.pc + 1, stack := .int (f j.toNatClampNeg) :: rest }) target → Steps p.tables e below (T.setTop g) target := by
  obtain ⟨cl, A, S, H⟩ := V
  exact X.iaload hx (by rw [eT]; exact A.1) (State.isArrayOf_alike hZ.alike A.2.1) A.2.2 (by rw [S]; exact hj) (H _ (Nat.lt_of_not_le fun q => hj (Or.inr q))).1 hg hs hd
theorem ldJA (X : Stand p l e R s m args below meth c T locs cells slots) (hx : p.tables.exec = Jvm.exec) (hZ : Z.Warmed39 s.vm) (eT : T.heap = h) (V : JA Z h a n fJ) {j : Int32} (hj : ¬ (j < 0 ∨ n ≤ j.toNatClampNeg)) {g : JFrame} (hg : g.method = m) {rest : List Value} (hs : g.stack = .int j :: .ref a :: rest) (hd : decode c.code g.pc = .ok (.laload, 1)) :
    ∀ target, Steps p.tables e below (T.setTop { g with pc := g.pc + 1, stack := .long (fJ j.toNatClampNeg) :: rest }) target → Steps p.tables e below (T.setTop g) target := by
  obtain ⟨cl, A, S, H⟩ := V
  exact X.laload hx (by rw [eT]; exact A.1) (State.isArrayOf_alike hZ.alike A.2.1) A.2.2 (by rw [S]; exact hj) (H _ (Nat.lt_of_not_le fun q => hj (Or.inr q))) hg hs hd
theorem lnIA (X : Stand p l e R s m args below meth c T locs cells slots) (hx : p.tables.exec = Jvm.exec) (hZ : Z.Warmed39 s.vm) (eT : T.heap = h) (V : IA Z h a ty n f) {z : Int32} (hz : n.toInt32 = z) {g : JFrame} (hg : g.method = m) {rest : List Value} (hs : g.stack = .ref a :: rest) (hd : decode c.code g.pc = .ok (.arraylength, 1)) :
    ∀ target, Steps p.tables e below (T.setTop { g with pc := g.pc + 1, stack := .int z :: rest }) target → Steps p.tables e below (T.setTop g) target := by
  obtain ⟨cl, A, S, H⟩ := V
  intro t k
  refine X.arraylength hx (by rw [eT]; exact A.1) (State.isArrayOf_alike hZ.alike A.2.1) hg hs hd t ?_
  rw [S, hz]; exact k
theorem lnJA (X : Stand p l e R s m args below meth c T locs cells slots) (hx : p.tables.exec = Jvm.exec) (hZ : Z.Warmed39 s.vm) (eT : T.heap = h) (V : JA Z h a n fJ) {z : Int32} (hz : n.toInt32 = z) {g : JFrame} (hg : g.method = m) {rest : List Value} (hs : g.stack = .ref a :: rest) (hd : decode c.code g.pc = .ok (.arraylength, 1)) :
    ∀ target, Steps p.tables e below (T.setTop { g with pc := g.pc + 1, stack := .int z :: rest }) target → Steps p.tables e below (T.setTop g) target := by
  obtain ⟨cl, A, S, H⟩ := V
  intro t k
  refine X.arraylength hx (by rw [eT]; exact A.1) (State.isArrayOf_alike hZ.alike A.2.1) hg hs hd t ?_
  rw [S, hz]; exact k
theorem retI (X : Stand p l e R s m args below meth c T locs cells slots) (hx : p.tables.exec = Jvm.exec) {pc : Nat} {Ls : Array Slot} {z : Int32} {rest : List Value} (hret : meth.sig.returnType = some .int) (hd : decode c.code pc = .ok (.ireturn, 1)) {fs : List Frame}
    (hl : ∀ (f : JFrame) (acts : List Action), f.method = m → f.locked = none → f.entered = [] → (doReturn e (T.setTop f) acts (some (.int z))).1 = T.setFrames fs) : Steps p.tables e below (T.setTop (mkF m pc Ls (.int z :: rest))) (T.setFrames fs) :=
  retOut X hx hret rfl (Or.inl ⟨rfl, Or.inl rfl, z, rfl⟩) hd hl
end Own
/-! numbers -/
theorem own_small {v : Int32} (n : Nat) (h0 : 0 ≤ v.toInt) (h1 : v.toInt < n) : ∃ k : Fin n, v = Int32.ofNat k.val := by
  refine ⟨⟨v.toInt.toNat, by omega⟩, ?_⟩
  apply Int32.toInt_inj.mp
  have := v.toInt_lt
  show v.toInt = (Int32.ofNat v.toInt.toNat).toInt
  rw [Int32.toInt_ofNat_of_lt (by omega)]
  omega
theorem own_mask31 (x : Int32) : 0 ≤ (x &&& (2147483647 : Int32)).toInt ∧ (x &&& (2147483647 : Int32)).toInt = x.toInt % 2147483648 := by
  have h : (x &&& (2147483647 : Int32)).toInt = x.toInt % (2 ^ 31 : Nat) := c_mask x 2147483647 31 (by decide) (by decide)
  omega
theorem own_mod (x : Int32) (d : Int32) (n : Nat) (hd : d.toInt = n) (hn : 0 < n) : ∃ k : Fin n, (x &&& (2147483647 : Int32)) % d = Int32.ofNat k.val := by
  apply own_small
  · rw [Int32.toInt_mod]; exact Int.tmod_nonneg _ (own_mask31 x).1
  · rw [Int32.toInt_mod, hd]; exact Int.tmod_lt_of_pos _ (by omega)
theorem own_ofNat_toInt {n : Nat} (h : n < 2147483648) : (Int32.ofNat n).toInt = n := Int32.toInt_ofNat_of_lt (by omega)
theorem own_ofNat_lt {a b : Nat} (ha : a < 2147483648) (hb : b < 2147483648) : Int32.ofNat a < Int32.ofNat b ↔ a < b := by
  rw [Int32.lt_iff_toInt_lt, own_ofNat_toInt ha, own_ofNat_toInt hb]; omega
theorem own_ofNat_nat {n : Nat} (h : n < 2147483648) : (Int32.ofNat n).toNatClampNeg = n := by
  show (Int32.ofNat n).toInt.toNat = n
  rw [own_ofNat_toInt h]; omega
theorem own_ofNat_in {n len : Nat} (h : n < len) (hl : len ≤ 2147483648) : ¬ (Int32.ofNat n < 0 ∨ len ≤ (Int32.ofNat n).toNatClampNeg) := by
  rw [own_ofNat_nat (by omega), Int32.lt_iff_toInt_lt, own_ofNat_toInt (by omega)]
  have e : (0 : Int32).toInt = 0 := by decide
  rw [e]; omega
theorem own_ofNat_succ (n : Nat) : Int32.ofNat n + 1 = Int32.ofNat (n + 1) := by rw [Int32.ofNat_add]; rfl
def scan (f : Nat → Int32) : Nat → Nat → Nat
  | i, 0 => i
  | i, k + 1 => if f i = 9 then i else scan f (i + 1) k
theorem own_scan (f : Nat → Int32) : ∀ (k i : Nat), i ≤ scan f i k ∧ scan f i k ≤ i + k ∧ (scan f i k < i + k → f (scan f i k) = 9) ∧ ∀ j, i ≤ j → j < scan f i k → f j ≠ 9 := by
  intro k
  induction k with
  | zero => intro i; simp only [scan]; refine ⟨by omega, by omega, by omega, ?_⟩; intro j h1 h2; omega
  | succ k ih =>
    intro i
    by_cases h : f i = 9
    · rw [show scan f i (k + 1) = i from if_pos h]; refine ⟨by omega, by omega, fun _ => h, ?_⟩; intro j h1 h2; omega
    · rw [show scan f i (k + 1) = scan f (i + 1) k from if_neg h]
      obtain ⟨a, b, c, d⟩ := ih (i + 1)
      refine ⟨by omega, by omega, fun q => c (by omega), fun j h1 h2 => ?_⟩
      by_cases e : j = i
      · subst e; exact h
      · exact d j (by omega) h2
theorem own_rem {x d : Int32} (h : 0 < d.toInt) : 0 ≤ ((x &&& (2147483647 : Int32)) % d).toInt ∧ ((x &&& (2147483647 : Int32)) % d).toInt < d.toInt := by
  rw [Int32.toInt_mod]
  exact ⟨Int.tmod_nonneg _ (own_mask31 x).1, Int.tmod_lt_of_pos _ h⟩
theorem own_v7 {p2 v73 : Int32} (hv73 : v73 = ((p2 &&& (2147483647 : Int32)) % (7 : Int32))) : 0 ≤ v73.toInt ∧ v73.toInt < 7 := by
  have e : (7 : Int32).toInt = 7 := by decide
  have h := own_rem (x := p2) (d := 7) (by rw [e]; decide)
  rw [e] at h; subst hv73; exact h
theorem own_d7 {p2 v73 : Int32} (hv73 : v73 = ((p2 &&& (2147483647 : Int32)) % (7 : Int32))) : ((7 : Int32) - v73).toInt = 7 - v73.toInt := by
  have h := own_v7 hv73; have e : (7 : Int32).toInt = 7 := by decide
  have k := c_isub 7 v73; have r := rng32 (7 - v73); rw [e] at k; omega
theorem own_nz {p2 v73 : Int32} (hv73 : v73 = ((p2 &&& (2147483647 : Int32)) % (7 : Int32))) : ((7 : Int32) - v73) ≠ 0 := by
  intro q; have h := own_v7 hv73; have k := own_d7 hv73; rw [q] at k; have e : (0 : Int32).toInt = 0 := by decide
  omega
theorem own_ab {p2 p3 v73 v89 : Int32} (hv73 : v73 = ((p2 &&& (2147483647 : Int32)) % (7 : Int32))) (hv89 : v89 = (v73 + ((p3 &&& (2147483647 : Int32)) % ((7 : Int32) - v73)))) :
    ∃ a b : Nat, v73 = Int32.ofNat a ∧ v89 = Int32.ofNat b ∧ a ≤ b ∧ b ≤ 6 := by
  have h := own_v7 hv73; have k := own_d7 hv73
  have q := own_rem (x := p3) (d := (7 : Int32) - v73) (by omega)
  have s := c_iadd v73 ((p3 &&& (2147483647 : Int32)) % ((7 : Int32) - v73)); have r := rng32 (v73 + ((p3 &&& (2147483647 : Int32)) % ((7 : Int32) - v73)))
  rw [← hv89] at s r
  obtain ⟨a, ha⟩ := own_small (v := v73) 7 h.1 h.2
  obtain ⟨b, hb⟩ := own_small (v := v89) 7 (by omega) (by omega)
  have a7 := a.isLt; have b7 := b.isLt
  have ea : v73.toInt = a.val := by rw [ha]; exact own_ofNat_toInt (by omega)
  have eb : v89.toInt = b.val := by rw [hb]; exact own_ofNat_toInt (by omega)
  exact ⟨a.val, b.val, ha, hb, by omega, by omega⟩
theorem own_in129 {f65 : Nat → Int32} {a b : Nat} {v89 v100 : Int32} (hv100 : v100 = (Int32.ofNat (scan f65 a (b - a)))) (hb : v89 = Int32.ofNat b) (hab : a ≤ b) (hb6 : b ≤ 6) (hc : v100 < v89) : ¬ (v100 < 0 ∨ 6 ≤ v100.toNatClampNeg) := by
  obtain ⟨s1, s2, -⟩ := own_scan f65 (b - a) a
  rw [hv100, hb, own_ofNat_lt (by omega) (by omega)] at hc
  rw [hv100]; exact own_ofNat_in (by omega) (by decide)
theorem pck_d0 : decode method_3_code 0 = .ok (.iload_n 2, 1) := by decide +kernel
theorem pck_d1 : decode method_3_code 1 = .ok (.iload_n 3, 1) := by decide +kernel
theorem pck_d2 : decode method_3_code 2 = .ok (.ishr, 1) := by decide +kernel
theorem pck_d3 : decode method_3_code 3 = .ok (.iconst 1, 1) := by decide +kernel
theorem pck_d4 : decode method_3_code 4 = .ok (.iand, 1) := by decide +kernel
theorem pck_d5 : decode method_3_code 5 = .ok (.ifCond .eq 6, 3) := by decide +kernel
theorem pck_d8 : decode method_3_code 8 = .ok (.bipush 9, 2) := by decide +kernel
theorem pck_d10 : decode method_3_code 10 = .ok (.ireturn, 1) := by decide +kernel
theorem pck_d11 : decode method_3_code 11 = .ok (.lload_n 0, 1) := by decide +kernel
theorem pck_d12 : decode method_3_code 12 = .ok (.bipush 8, 2) := by decide +kernel
theorem pck_d14 : decode method_3_code 14 = .ok (.iload_n 3, 1) := by decide +kernel
theorem pck_d15 : decode method_3_code 15 = .ok (.imul, 1) := by decide +kernel
theorem pck_d16 : decode method_3_code 16 = .ok (.lushr, 1) := by decide +kernel
theorem pck_d17 : decode method_3_code 17 = .ok (.l2i, 1) := by decide +kernel
theorem pck_d18 : decode method_3_code 18 = .ok (.i2b, 1) := by decide +kernel
theorem pck_d19 : decode method_3_code 19 = .ok (.ireturn, 1) := by decide +kernel
theorem pck_pn : plainName "com/example/lowtide/lowtide/ColumnsEndPinLaw" = true := by first | (simp [plainName, overriddenIn]; done) | decide +kernel
theorem pck_ef (m : MethodId) (x0 : Int64) (x1 : Int32) (x2 : Int32) : entryFrame m #[(.long x0), (.int x1), (.int x2)] 4 = mkF m 0 #[.val (.long x0), .second, .val (.int x1), .val (.int x2)] [] := by first | (simp [entryFrame, mkF, argsToLocals, Value.category]; done) | rfl
def fPick (q0 : Int64) (p1 : Int32) (p2 : Int32) : Int32 :=
  let jx5 : Int32 := (if ((p1 >>> (p2 &&& 31)) &&& (1 : Int32)) = (0 : Int32) then ((((q0.toUInt64 >>> (((8 : Int32) * p2) &&& 0x3f).toInt64.toUInt64).toInt64).toInt32).toInt8.toInt32) else (9 : Int32))
  (nar .byte jx5)
set_option maxRecDepth 65536 in
set_option maxHeartbeats 40000000 in
theorem rm_pck (l : Launch) (Z : State) (a0 : Array Value) (hw : ∀ d ∈ tables_1, d.before a0 Z = true) (ws : List Jvm.Cond) (q0 : Int64) (p1 : Int32) (p2 : Int32) (h0 : Heap) (n0 : Nat) (Z0 : n0 ≤ h0.size) :
    MetFree l (⟨"com/example/lowtide/lowtide/ColumnsEndPinLaw", "pick", "(JII)B"⟩ : MethodName) (head1 (Jvm.Cond.code (⟨"com/example/lowtide/lowtide/ColumnsEndPinLaw", "pick", "(JII)B"⟩ : MethodName) method_3_code 4 (some .byte) :: ws) ({ frames := 0, cells := 0, slots := 0, locals := 0 } : Room)) (fun a U => a = #[(.long q0), (.int p1), (.int p2)] ∧ Z.Warmed39 U.vm ∧ U.heap = h0) (fun _ _ _ _ _ => True) (fun _ U o U' => ∃ v L, o = .returned v ∧ QP (.int (fPick q0 p1 p2)) h0 n0 v U'.heap L ∧ FrameEnd U o U' L ({ frames := 0, cells := 0, slots := 0, locals := 0 } : Room).cells ({ frames := 0, cells := 0, slots := 0, locals := 0 } : Room).slots) := by
  refine MetFree.of_bodySF (plainFor_of_name pck_pn) hisR ?_
  intro p e s m args below meth c s₁ Bd hml0 hP hK
  obtain ⟨rfl, hZ, hh⟩ := hP
  have hx := Bd.exec
  have hby := Bd.bytes
  have hml : c.maxLocals = 4 := hml0
  have hown : s.vm.findClass "com/example/lowtide/lowtide/ColumnsEndPinLaw" = some m.cls := findClass_of_methodNamed Bd.named
  have hnm := (name_of_methodNamed Bd.named Bd.method).1
  have X0 : Stand p l e ({ frames := 0, cells := 0, slots := 0, locals := 0 } : Room) s m #[(.long q0), (.int p1), (.int p2)] below meth c s₁ [] 0 0 := Stand.of_body Bd
  have e0 : s₁.heap = h0 := by rw [← hh, Bd.state]; rfl
  have N0 := Fr.nil n0
  obtain ⟨P0, hP0⟩ : ∃ P0 : State → Prop, P0 = fun t => Steps p.tables e below (s₁.setTop (entryFrame m #[(.long q0), (.int p1), (.int p2)] 4)) t := ⟨_, rfl⟩
  have K0 : ∀ t, Steps p.tables e below (s₁.setTop (mkF m 0 #[.val (.long q0), .second, .val (.int p1), .val (.int p2)] [])) t → P0 t := by
    intro t k; rw [hP0]; exact castTop (pck_ef m q0 p1 p2) k
  have K1 : ∀ t, Steps p.tables e below (s₁.setTop (mkF m 5 #[.val (.long q0), .second, .val (.int p1), .val (.int p2)] [(.int ((p1 >>> (p2 &&& 31)) &&& (1 : Int32)))])) t → P0 t := by
    intro t kt
    refine K0 t ?_
    show Steps p.tables e below (s₁.setTop (mkF m 0 #[.val (.long q0), .second, .val (.int p1), .val (.int p2)] [])) t
    refine XS.iloadN X0.here hx rfl (hb hby pck_d0) rfl ?_
    show Steps p.tables e below (s₁.setTop (mkF m 1 #[.val (.long q0), .second, .val (.int p1), .val (.int p2)] [(.int p1)])) t
    refine XS.iloadN X0.here hx rfl (hb hby pck_d1) rfl ?_
    show Steps p.tables e below (s₁.setTop (mkF m 2 #[.val (.long q0), .second, .val (.int p1), .val (.int p2)] [(.int p2), (.int p1)])) t
    refine XS.ishr X0.here hx rfl (hb hby pck_d2) rfl ?_
    show Steps p.tables e below (s₁.setTop (mkF m 3 #[.val (.long q0), .second, .val (.int p1), .val (.int p2)] [(.int (p1 >>> (p2 &&& 31)))])) t
    refine XS.iconst X0.here hx rfl (hb hby pck_d3) ?_
    show Steps p.tables e below (s₁.setTop (mkF m 4 #[.val (.long q0), .second, .val (.int p1), .val (.int p2)] [(.int (1 : Int32)), (.int (p1 >>> (p2 &&& 31)))])) t
    refine XS.iand X0.here hx rfl (hb hby pck_d4) rfl ?_
    exact kt
  obtain ⟨jx5, pcx5, Lx5, Sx5, hjx5, hdx5, K4⟩ : ∃ (jx5 : Int32) (pcx5 : Nat) (Lx5 : Array Slot) (Sx5 : List Value), jx5 = (if ((p1 >>> (p2 &&& 31)) &&& (1 : Int32)) = (0 : Int32) then ((((q0.toUInt64 >>> (((8 : Int32) * p2) &&& 0x3f).toInt64.toUInt64).toInt64).toInt32).toInt8.toInt32) else (9 : Int32)) ∧ decode c.code pcx5 = .ok (.ireturn, 1) ∧ ∀ t, Steps p.tables e below (s₁.setTop (mkF m pcx5 Lx5 ((.int jx5) :: Sx5))) t → P0 t := by
    by_cases hc5 : ((p1 >>> (p2 &&& 31)) &&& (1 : Int32)) = (0 : Int32)
    · have K2 : ∀ t, Steps p.tables e below (s₁.setTop (mkF m 19 #[.val (.long q0), .second, .val (.int p1), .val (.int p2)] [(.int ((((q0.toUInt64 >>> (((8 : Int32) * p2) &&& 0x3f).toInt64.toUInt64).toInt64).toInt32).toInt8.toInt32))])) t → P0 t := by
        intro t kt
        refine K1 t ?_
        show Steps p.tables e below (s₁.setTop (mkF m 5 #[.val (.long q0), .second, .val (.int p1), .val (.int p2)] [(.int ((p1 >>> (p2 &&& 31)) &&& (1 : Int32)))])) t
        refine XS.ifYes X0.here hx rfl (pc0 := 5) (pc' := 11) rfl (hb hby pck_d5) rfl ((if0 _ _).trans (teq hc5).1) (by decide) (by decide) ?_
        show Steps p.tables e below (s₁.setTop (mkF m 11 #[.val (.long q0), .second, .val (.int p1), .val (.int p2)] [])) t
        refine XS.lloadN X0.here hx rfl (hb hby pck_d11) rfl ?_
        show Steps p.tables e below (s₁.setTop (mkF m 12 #[.val (.long q0), .second, .val (.int p1), .val (.int p2)] [(.long q0)])) t
        refine XS.bipush X0.here hx rfl (hb hby pck_d12) ?_
        show Steps p.tables e below (s₁.setTop (mkF m 14 #[.val (.long q0), .second, .val (.int p1), .val (.int p2)] [(.int (8 : Int32)), (.long q0)])) t
        refine XS.iloadN X0.here hx rfl (hb hby pck_d14) rfl ?_
        show Steps p.tables e below (s₁.setTop (mkF m 15 #[.val (.long q0), .second, .val (.int p1), .val (.int p2)] [(.int p2), (.int (8 : Int32)), (.long q0)])) t
        refine XS.imul X0.here hx rfl (hb hby pck_d15) rfl ?_
        show Steps p.tables e below (s₁.setTop (mkF m 16 #[.val (.long q0), .second, .val (.int p1), .val (.int p2)] [(.int ((8 : Int32) * p2)), (.long q0)])) t
        refine XS.lushr X0.here hx rfl (hb hby pck_d16) rfl ?_
        show Steps p.tables e below (s₁.setTop (mkF m 17 #[.val (.long q0), .second, .val (.int p1), .val (.int p2)] [(.long ((q0.toUInt64 >>> (((8 : Int32) * p2) &&& 0x3f).toInt64.toUInt64).toInt64))])) t
        refine XS.l2i X0.here hx rfl (hb hby pck_d17) rfl ?_
        show Steps p.tables e below (s₁.setTop (mkF m 18 #[.val (.long q0), .second, .val (.int p1), .val (.int p2)] [(.int (((q0.toUInt64 >>> (((8 : Int32) * p2) &&& 0x3f).toInt64.toUInt64).toInt64).toInt32))])) t
        refine XS.i2b X0.here hx rfl (hb hby pck_d18) rfl ?_
        exact kt
      exact ⟨_, _, _, _, (if_pos hc5).symm, (hb hby pck_d19), K2⟩
    · have K3 : ∀ t, Steps p.tables e below (s₁.setTop (mkF m 10 #[.val (.long q0), .second, .val (.int p1), .val (.int p2)] [(.int (9 : Int32))])) t → P0 t := by
        intro t kt
        refine K1 t ?_
        show Steps p.tables e below (s₁.setTop (mkF m 5 #[.val (.long q0), .second, .val (.int p1), .val (.int p2)] [(.int ((p1 >>> (p2 &&& 31)) &&& (1 : Int32)))])) t
        refine XS.ifNo X0.here hx rfl (hb hby pck_d5) rfl ((if0 _ _).trans (feq hc5).1) ?_
        show Steps p.tables e below (s₁.setTop (mkF m 8 #[.val (.long q0), .second, .val (.int p1), .val (.int p2)] [])) t
        refine XS.bipush X0.here hx rfl (hb hby pck_d8) ?_
        exact kt
      exact ⟨_, _, _, _, (if_neg hc5).symm, (hb hby pck_d10), K3⟩
  obtain ⟨fs, hr, hrun, hended, hW, hsame⟩ := X0.leave (v := some (.int (nar .byte jx5))) (fun h => by rw [Bd.returns] at h; cases h)
  refine ⟨_, _, ?_, hrun, hended, _, _, rfl, ?_, ⟨_, rfl⟩, hW, hsame.mono (by decide) (by decide)⟩
  · skip
    have q := K4 _ (retN X0 hx (t := .byte) Bd.returns (by simp) hdx5 hr)
    rw [hP0] at q; exact q
  · show QP (.int (fPick q0 p1 p2)) h0 n0 _ s₁.heap _
    rw [e0]
    subst hjx5
    exact ⟨rfl, N0, rfl⟩
theorem end_d0 : decode prog_2_method_3_code 0 = .ok (.iload_n 1, 1) := by decide +kernel
theorem end_d1 : decode prog_2_method_3_code 1 = .ok (.istore_n 3, 1) := by decide +kernel
theorem end_d2 : decode prog_2_method_3_code 2 = .ok (.iload_n 3, 1) := by decide +kernel
theorem end_d3 : decode prog_2_method_3_code 3 = .ok (.iload_n 2, 1) := by decide +kernel
theorem end_d4 : decode prog_2_method_3_code 4 = .ok (.if_icmp .ge 17, 3) := by decide +kernel
theorem end_d7 : decode prog_2_method_3_code 7 = .ok (.aload_n 0, 1) := by decide +kernel
theorem end_d8 : decode prog_2_method_3_code 8 = .ok (.iload_n 3, 1) := by decide +kernel
theorem end_d9 : decode prog_2_method_3_code 9 = .ok (.baload, 1) := by decide +kernel
theorem end_d10 : decode prog_2_method_3_code 10 = .ok (.bipush 9, 2) := by decide +kernel
theorem end_d12 : decode prog_2_method_3_code 12 = .ok (.if_icmp .eq 9, 3) := by decide +kernel
theorem end_d15 : decode prog_2_method_3_code 15 = .ok (.iinc 3 1, 3) := by decide +kernel
theorem end_d18 : decode prog_2_method_3_code 18 = .ok (.goto (-16), 3) := by decide +kernel
theorem end_d21 : decode prog_2_method_3_code 21 = .ok (.iload_n 3, 1) := by decide +kernel
theorem end_d22 : decode prog_2_method_3_code 22 = .ok (.ireturn, 1) := by decide +kernel
theorem end_pn : plainName "com/example/lowtide/lowtide/Columns" = true := by first | (simp [plainName, overriddenIn]; done) | decide +kernel
theorem end_ef (m : MethodId) (x0 : Addr) (x1 : Int32) (x2 : Int32) : entryFrame m #[(.ref x0), (.int x1), (.int x2)] 4 = mkF m 0 #[.val (.ref x0), .val (.int x1), .val (.int x2), .unset] [] := by first | (simp [entryFrame, mkF, argsToLocals, Value.category]; done) | rfl
set_option maxRecDepth 65536 in
set_option maxHeartbeats 40000000 in
theorem rm_end (l : Launch) (Z : State) (a0 : Array Value) (hw : ∀ d ∈ tables_1, d.before a0 Z = true) (ws : List Jvm.Cond) (r0 : Addr) (p1 : Int32) (p2 : Int32) (fa : Nat → Int32) (i0 n : Nat) (h0 : Heap) (n0 : Nat) (Z0 : n0 ≤ h0.size) (Va : IA Z h0 r0 .byte 6 fa) (hp1 : p1 = Int32.ofNat i0) (hp2 : p2 = Int32.ofNat n) (hi0 : i0 ≤ n) (hn : n ≤ 6) :
    MetFree l (⟨"com/example/lowtide/lowtide/Columns", "end", "([BII)I"⟩ : MethodName) (head1 (Jvm.Cond.code (⟨"com/example/lowtide/lowtide/Columns", "end", "([BII)I"⟩ : MethodName) prog_2_method_3_code 4 (some .int) :: ws) ({ frames := 0, cells := 0, slots := 0, locals := 0 } : Room)) (fun a U => a = #[(.ref r0), (.int p1), (.int p2)] ∧ Z.Warmed39 U.vm ∧ U.heap = h0) (fun _ _ _ _ _ => True) (fun _ U o U' => ∃ v L, o = .returned v ∧ QP (.int (Int32.ofNat (scan fa i0 (n - i0)))) h0 n0 v U'.heap L ∧ FrameEnd U o U' L ({ frames := 0, cells := 0, slots := 0, locals := 0 } : Room).cells ({ frames := 0, cells := 0, slots := 0, locals := 0 } : Room).slots) := by
  refine MetFree.of_bodySF (plainFor_of_name end_pn) hisR ?_
  intro p e s m args below meth c s₁ Bd hml0 hP hK
  obtain ⟨rfl, hZ, hh⟩ := hP
  have hx := Bd.exec
  have hby := Bd.bytes
  have hml : c.maxLocals = 4 := hml0
  have hown : s.vm.findClass "com/example/lowtide/lowtide/Columns" = some m.cls := findClass_of_methodNamed Bd.named
  have hnm := (name_of_methodNamed Bd.named Bd.method).1
  have X0 : Stand p l e ({ frames := 0, cells := 0, slots := 0, locals := 0 } : Room) s m #[(.ref r0), (.int p1), (.int p2)] below meth c s₁ [] 0 0 := Stand.of_body Bd
  have e0 : s₁.heap = h0 := by rw [← hh, Bd.state]; rfl
  have N0 := Fr.nil n0
  obtain ⟨P0, hP0⟩ : ∃ P0 : State → Prop, P0 = fun t => Steps p.tables e below (s₁.setTop (entryFrame m #[(.ref r0), (.int p1), (.int p2)] 4)) t := ⟨_, rfl⟩
  have K0 : ∀ t, Steps p.tables e below (s₁.setTop (mkF m 0 #[.val (.ref r0), .val (.int p1), .val (.int p2), .unset] [])) t → P0 t := by
    intro t k; rw [hP0]; exact castTop (end_ef m r0 p1 p2) k
  have K1 : ∀ t, Steps p.tables e below (s₁.setTop (mkF m 2 #[.val (.ref r0), .val (.int p1), .val (.int p2), .val (.int p1)] [])) t → P0 t := by
    intro t kt
    refine K0 t ?_
    show Steps p.tables e below (s₁.setTop (mkF m 0 #[.val (.ref r0), .val (.int p1), .val (.int p2), .unset] [])) t
    refine XS.iloadN X0.here hx rfl (hb hby end_d0) rfl ?_
    show Steps p.tables e below (s₁.setTop (mkF m 1 #[.val (.ref r0), .val (.int p1), .val (.int p2), .unset] [(.int p1)])) t
    refine XS.istoreN X0.here hx rfl (hb hby end_d1) rfl (l' := #[.val (.ref r0), .val (.int p1), .val (.int p2), .val (.int p1)]) rfl ?_
    exact kt
  have KL : ∀ (k i : Nat) (z : Int32), z = Int32.ofNat i → i + k = n → ∀ t, Steps p.tables e below (s₁.setTop (mkF m 21 #[.val (.ref r0), .val (.int p1), .val (.int p2), .val (.int (Int32.ofNat (scan fa i k)))] [])) t → Steps p.tables e below (s₁.setTop (mkF m 2 #[.val (.ref r0), .val (.int p1), .val (.int p2), .val (.int z)] [])) t := by
    intro k; induction k with
    | zero =>
      intro i z hz hik
      subst hz
      have hlt : ¬ (Int32.ofNat i) < p2 := by rw [hp2, own_ofNat_lt (by omega) (by omega)]; omega
      have KA : ∀ t, Steps p.tables e below (s₁.setTop (mkF m 21 #[.val (.ref r0), .val (.int p1), .val (.int p2), .val (.int (Int32.ofNat i))] [])) t → Steps p.tables e below (s₁.setTop (mkF m 2 #[.val (.ref r0), .val (.int p1), .val (.int p2), .val (.int (Int32.ofNat i))] [])) t := by
        intro t kt
        show Steps p.tables e below (s₁.setTop (mkF m 2 #[.val (.ref r0), .val (.int p1), .val (.int p2), .val (.int (Int32.ofNat i))] [])) t
        refine XS.iloadN X0.here hx rfl (hb hby end_d2) rfl ?_
        show Steps p.tables e below (s₁.setTop (mkF m 3 #[.val (.ref r0), .val (.int p1), .val (.int p2), .val (.int (Int32.ofNat i))] [(.int (Int32.ofNat i))])) t
        refine XS.iloadN X0.here hx rfl (hb hby end_d3) rfl ?_
        show Steps p.tables e below (s₁.setTop (mkF m 4 #[.val (.ref r0), .val (.int p1), .val (.int p2), .val (.int (Int32.ofNat i))] [(.int p2), (.int (Int32.ofNat i))])) t
        refine XS.icmpYes X0.here hx rfl (pc0 := 4) (pc' := 21) rfl (hb hby end_d4) rfl (flt hlt).2.1 (by decide) (by decide) ?_
        exact kt
      exact KA
    | succ k ih =>
      intro i z hz hik
      subst hz
      have hlt : (Int32.ofNat i) < p2 := by rw [hp2, own_ofNat_lt (by omega) (by omega)]; omega
      have hin : ¬ ((Int32.ofNat i) < 0 ∨ 6 ≤ (Int32.ofNat i).toNatClampNeg) := own_ofNat_in (by omega) (by decide)
      have hfi : fa (Int32.ofNat i).toNatClampNeg = fa i := by rw [own_ofNat_nat (by omega)]
      by_cases h9 : fa i = 9
      · have h9' : (fa (Int32.ofNat i).toNatClampNeg) = (9 : Int32) := hfi.trans h9
        have KB : ∀ t, Steps p.tables e below (s₁.setTop (mkF m 21 #[.val (.ref r0), .val (.int p1), .val (.int p2), .val (.int (Int32.ofNat i))] [])) t → Steps p.tables e below (s₁.setTop (mkF m 2 #[.val (.ref r0), .val (.int p1), .val (.int p2), .val (.int (Int32.ofNat i))] [])) t := by
          intro t kt
          show Steps p.tables e below (s₁.setTop (mkF m 2 #[.val (.ref r0), .val (.int p1), .val (.int p2), .val (.int (Int32.ofNat i))] [])) t
          refine XS.iloadN X0.here hx rfl (hb hby end_d2) rfl ?_
          show Steps p.tables e below (s₁.setTop (mkF m 3 #[.val (.ref r0), .val (.int p1), .val (.int p2), .val (.int (Int32.ofNat i))] [(.int (Int32.ofNat i))])) t
          refine XS.iloadN X0.here hx rfl (hb hby end_d3) rfl ?_
          show Steps p.tables e below (s₁.setTop (mkF m 4 #[.val (.ref r0), .val (.int p1), .val (.int p2), .val (.int (Int32.ofNat i))] [(.int p2), (.int (Int32.ofNat i))])) t
          refine XS.icmpNo X0.here hx rfl (hb hby end_d4) rfl (tlt hlt).2.1 ?_
          show Steps p.tables e below (s₁.setTop (mkF m 7 #[.val (.ref r0), .val (.int p1), .val (.int p2), .val (.int (Int32.ofNat i))] [])) t
          refine XS.aloadN X0.here hx rfl (hb hby end_d7) rfl rfl ?_
          show Steps p.tables e below (s₁.setTop (mkF m 8 #[.val (.ref r0), .val (.int p1), .val (.int p2), .val (.int (Int32.ofNat i))] [(.ref r0)])) t
          refine XS.iloadN X0.here hx rfl (hb hby end_d8) rfl ?_
          show Steps p.tables e below (s₁.setTop (mkF m 9 #[.val (.ref r0), .val (.int p1), .val (.int p2), .val (.int (Int32.ofNat i))] [(.int (Int32.ofNat i)), (.ref r0)])) t
          refine ldBA X0 hx hZ e0 Va (j := (Int32.ofNat i)) hin (g := (mkF m 9 #[.val (.ref r0), .val (.int p1), .val (.int p2), .val (.int (Int32.ofNat i))] [(.int (Int32.ofNat i)), (.ref r0)])) rfl rfl (hb hby end_d9) _ ?_
          show Steps p.tables e below (s₁.setTop (mkF m 10 #[.val (.ref r0), .val (.int p1), .val (.int p2), .val (.int (Int32.ofNat i))] [(.int (fa ((Int32.ofNat i)).toNatClampNeg))])) t
          refine XS.bipush X0.here hx rfl (hb hby end_d10) ?_
          show Steps p.tables e below (s₁.setTop (mkF m 12 #[.val (.ref r0), .val (.int p1), .val (.int p2), .val (.int (Int32.ofNat i))] [(.int (9 : Int32)), (.int (fa ((Int32.ofNat i)).toNatClampNeg))])) t
          refine XS.icmpYes X0.here hx rfl (pc0 := 12) (pc' := 21) rfl (hb hby end_d12) rfl (teq h9').1 (by decide) (by decide) ?_
          exact kt
        rw [show scan fa i (k + 1) = i from if_pos h9]
        exact KB
      · have h9' : ¬ (fa (Int32.ofNat i).toNatClampNeg) = (9 : Int32) := fun q => h9 (hfi.symm.trans q)
        have KC : ∀ t, Steps p.tables e below (s₁.setTop (mkF m 2 #[.val (.ref r0), .val (.int p1), .val (.int p2), .val (.int ((Int32.ofNat i) + (1 : Int32)))] [])) t → Steps p.tables e below (s₁.setTop (mkF m 2 #[.val (.ref r0), .val (.int p1), .val (.int p2), .val (.int (Int32.ofNat i))] [])) t := by
          intro t kt
          show Steps p.tables e below (s₁.setTop (mkF m 2 #[.val (.ref r0), .val (.int p1), .val (.int p2), .val (.int (Int32.ofNat i))] [])) t
          refine XS.iloadN X0.here hx rfl (hb hby end_d2) rfl ?_
          show Steps p.tables e below (s₁.setTop (mkF m 3 #[.val (.ref r0), .val (.int p1), .val (.int p2), .val (.int (Int32.ofNat i))] [(.int (Int32.ofNat i))])) t
          refine XS.iloadN X0.here hx rfl (hb hby end_d3) rfl ?_
          show Steps p.tables e below (s₁.setTop (mkF m 4 #[.val (.ref r0), .val (.int p1), .val (.int p2), .val (.int (Int32.ofNat i))] [(.int p2), (.int (Int32.ofNat i))])) t
          refine XS.icmpNo X0.here hx rfl (hb hby end_d4) rfl (tlt hlt).2.1 ?_
          show Steps p.tables e below (s₁.setTop (mkF m 7 #[.val (.ref r0), .val (.int p1), .val (.int p2), .val (.int (Int32.ofNat i))] [])) t
          refine XS.aloadN X0.here hx rfl (hb hby end_d7) rfl rfl ?_
          show Steps p.tables e below (s₁.setTop (mkF m 8 #[.val (.ref r0), .val (.int p1), .val (.int p2), .val (.int (Int32.ofNat i))] [(.ref r0)])) t
          refine XS.iloadN X0.here hx rfl (hb hby end_d8) rfl ?_
          show Steps p.tables e below (s₁.setTop (mkF m 9 #[.val (.ref r0), .val (.int p1), .val (.int p2), .val (.int (Int32.ofNat i))] [(.int (Int32.ofNat i)), (.ref r0)])) t
          refine ldBA X0 hx hZ e0 Va (j := (Int32.ofNat i)) hin (g := (mkF m 9 #[.val (.ref r0), .val (.int p1), .val (.int p2), .val (.int (Int32.ofNat i))] [(.int (Int32.ofNat i)), (.ref r0)])) rfl rfl (hb hby end_d9) _ ?_
          show Steps p.tables e below (s₁.setTop (mkF m 10 #[.val (.ref r0), .val (.int p1), .val (.int p2), .val (.int (Int32.ofNat i))] [(.int (fa ((Int32.ofNat i)).toNatClampNeg))])) t
          refine XS.bipush X0.here hx rfl (hb hby end_d10) ?_
          show Steps p.tables e below (s₁.setTop (mkF m 12 #[.val (.ref r0), .val (.int p1), .val (.int p2), .val (.int (Int32.ofNat i))] [(.int (9 : Int32)), (.int (fa ((Int32.ofNat i)).toNatClampNeg))])) t
          refine XS.icmpNo X0.here hx rfl (hb hby end_d12) rfl (feq h9').1 ?_
          show Steps p.tables e below (s₁.setTop (mkF m 15 #[.val (.ref r0), .val (.int p1), .val (.int p2), .val (.int (Int32.ofNat i))] [])) t
          refine XS.iinc X0.here hx rfl (hb hby end_d15) rfl (l' := #[.val (.ref r0), .val (.int p1), .val (.int p2), .val (.int ((Int32.ofNat i) + (1 : Int32)))]) rfl ?_
          show Steps p.tables e below (s₁.setTop (mkF m 18 #[.val (.ref r0), .val (.int p1), .val (.int p2), .val (.int ((Int32.ofNat i) + (1 : Int32)))] [])) t
          refine XS.goto X0.here hx rfl (pc0 := 18) (pc' := 2) rfl (hb hby end_d18) (by decide) (by decide) ?_
          exact kt
        rw [show scan fa i (k + 1) = scan fa (i + 1) k from if_neg h9]
        exact fun t kt => KC t (ih (i + 1) _ (own_ofNat_succ i) (by omega) t kt)
  have K2 : ∀ t, Steps p.tables e below (s₁.setTop (mkF m 21 #[.val (.ref r0), .val (.int p1), .val (.int p2), .val (.int (Int32.ofNat (scan fa i0 (n - i0))))] [])) t → P0 t := fun t kt => K1 t (KL (n - i0) i0 p1 hp1 (by omega) t kt)
  have K3 : ∀ t, Steps p.tables e below (s₁.setTop (mkF m 22 #[.val (.ref r0), .val (.int p1), .val (.int p2), .val (.int (Int32.ofNat (scan fa i0 (n - i0))))] [(.int (Int32.ofNat (scan fa i0 (n - i0))))])) t → P0 t := by
    intro t kt
    refine K2 t ?_
    show Steps p.tables e below (s₁.setTop (mkF m 21 #[.val (.ref r0), .val (.int p1), .val (.int p2), .val (.int (Int32.ofNat (scan fa i0 (n - i0))))] [])) t
    refine XS.iloadN X0.here hx rfl (hb hby end_d21) rfl ?_
    exact kt
  obtain ⟨fs, hr, hrun, hended, hW, hsame⟩ := X0.leave (v := some (.int (Int32.ofNat (scan fa i0 (n - i0))))) (fun h => by rw [Bd.returns] at h; cases h)
  refine ⟨_, _, ?_, hrun, hended, _, _, rfl, ?_, ⟨_, rfl⟩, hW, hsame.mono (by decide) (by decide)⟩
  · skip
    have q := K3 _ (retI X0 hx Bd.returns (hb hby end_d22) hr)
    rw [hP0] at q; exact q
  · show QP _ h0 n0 _ s₁.heap _
    rw [e0]
    exact ⟨rfl, N0, rfl⟩
theorem clr_d0 : decode method_4_code 0 = .ok (.iload_n 1, 1) := by decide +kernel
theorem clr_d1 : decode method_4_code 1 = .ok (.iload_n 2, 1) := by decide +kernel
theorem clr_d2 : decode method_4_code 2 = .ok (.if_icmp .lt 16, 3) := by decide +kernel
theorem clr_d5 : decode method_4_code 5 = .ok (.iload_n 1, 1) := by decide +kernel
theorem clr_d6 : decode method_4_code 6 = .ok (.iload_n 3, 1) := by decide +kernel
theorem clr_d7 : decode method_4_code 7 = .ok (.if_icmp .ge 11, 3) := by decide +kernel
theorem clr_d10 : decode method_4_code 10 = .ok (.aload_n 0, 1) := by decide +kernel
theorem clr_d11 : decode method_4_code 11 = .ok (.iload_n 1, 1) := by decide +kernel
theorem clr_d12 : decode method_4_code 12 = .ok (.baload, 1) := by decide +kernel
theorem clr_d13 : decode method_4_code 13 = .ok (.bipush 9, 2) := by decide +kernel
theorem clr_d15 : decode method_4_code 15 = .ok (.if_icmp .eq 7, 3) := by decide +kernel
theorem clr_d18 : decode method_4_code 18 = .ok (.iconst 1, 1) := by decide +kernel
theorem clr_d19 : decode method_4_code 19 = .ok (.goto 4, 3) := by decide +kernel
theorem clr_d22 : decode method_4_code 22 = .ok (.iconst 0, 1) := by decide +kernel
theorem clr_d23 : decode method_4_code 23 = .ok (.ireturn, 1) := by decide +kernel
theorem clr_pn : plainName "com/example/lowtide/lowtide/ColumnsEndPinLaw" = true := by first | (simp [plainName, overriddenIn]; done) | decide +kernel
theorem clr_ef (m : MethodId) (x0 : Addr) (x1 : Int32) (x2 : Int32) (x3 : Int32) : entryFrame m #[(.ref x0), (.int x1), (.int x2), (.int x3)] 4 = mkF m 0 #[.val (.ref x0), .val (.int x1), .val (.int x2), .val (.int x3)] [] := by first | (simp [entryFrame, mkF, argsToLocals, Value.category]; done) | rfl
def fClr (p1 : Int32) (p2 : Int32) (p3 : Int32) (fa : Nat → Int32) : Int32 :=
  let j23_s0_2 : Int32 := (if p1 < p2 then (1 : Int32) else (if p1 < p3 then (if (fa (p1).toNatClampNeg) = (9 : Int32) then (0 : Int32) else (1 : Int32)) else (1 : Int32)))
  (nar .boolean j23_s0_2)
set_option maxRecDepth 65536 in
set_option maxHeartbeats 40000000 in
theorem rm_clr (l : Launch) (Z : State) (a0 : Array Value) (hw : ∀ d ∈ tables_1, d.before a0 Z = true) (ws : List Jvm.Cond) (r0 : Addr) (p1 : Int32) (p2 : Int32) (p3 : Int32) (fa : Nat → Int32) (h0 : Heap) (n0 : Nat) (Z0 : n0 ≤ h0.size) (Va : IA Z h0 r0 .byte 6 fa) (hin : ¬ (p1 < 0 ∨ 6 ≤ p1.toNatClampNeg)) :
    MetFree l (⟨"com/example/lowtide/lowtide/ColumnsEndPinLaw", "clear", "([BIII)Z"⟩ : MethodName) (head1 (Jvm.Cond.code (⟨"com/example/lowtide/lowtide/ColumnsEndPinLaw", "clear", "([BIII)Z"⟩ : MethodName) method_4_code 4 (some .boolean) :: ws) ({ frames := 0, cells := 0, slots := 0, locals := 0 } : Room)) (fun a U => a = #[(.ref r0), (.int p1), (.int p2), (.int p3)] ∧ Z.Warmed39 U.vm ∧ U.heap = h0) (fun _ _ _ _ _ => True) (fun _ U o U' => ∃ v L, o = .returned v ∧ QP (.int (fClr p1 p2 p3 fa)) h0 n0 v U'.heap L ∧ FrameEnd U o U' L ({ frames := 0, cells := 0, slots := 0, locals := 0 } : Room).cells ({ frames := 0, cells := 0, slots := 0, locals := 0 } : Room).slots) := by
  refine MetFree.of_bodySF (plainFor_of_name clr_pn) hisR ?_
  intro p e s m args below meth c s₁ Bd hml0 hP hK
  obtain ⟨rfl, hZ, hh⟩ := hP
  have hx := Bd.exec
  have hby := Bd.bytes
  have hml : c.maxLocals = 4 := hml0
  have hown : s.vm.findClass "com/example/lowtide/lowtide/ColumnsEndPinLaw" = some m.cls := findClass_of_methodNamed Bd.named
  have hnm := (name_of_methodNamed Bd.named Bd.method).1
  have X0 : Stand p l e ({ frames := 0, cells := 0, slots := 0, locals := 0 } : Room) s m #[(.ref r0), (.int p1), (.int p2), (.int p3)] below meth c s₁ [] 0 0 := Stand.of_body Bd
  have e0 : s₁.heap = h0 := by rw [← hh, Bd.state]; rfl
  have N0 := Fr.nil n0
  obtain ⟨P0, hP0⟩ : ∃ P0 : State → Prop, P0 = fun t => Steps p.tables e below (s₁.setTop (entryFrame m #[(.ref r0), (.int p1), (.int p2), (.int p3)] 4)) t := ⟨_, rfl⟩
  have K0 : ∀ t, Steps p.tables e below (s₁.setTop (mkF m 0 #[.val (.ref r0), .val (.int p1), .val (.int p2), .val (.int p3)] [])) t → P0 t := by
    intro t k; rw [hP0]; exact castTop (clr_ef m r0 p1 p2 p3) k
  have K1 : ∀ t, Steps p.tables e below (s₁.setTop (mkF m 2 #[.val (.ref r0), .val (.int p1), .val (.int p2), .val (.int p3)] [(.int p2), (.int p1)])) t → P0 t := by
    intro t kt
    refine K0 t ?_
    show Steps p.tables e below (s₁.setTop (mkF m 0 #[.val (.ref r0), .val (.int p1), .val (.int p2), .val (.int p3)] [])) t
    refine XS.iloadN X0.here hx rfl (hb hby clr_d0) rfl ?_
    show Steps p.tables e below (s₁.setTop (mkF m 1 #[.val (.ref r0), .val (.int p1), .val (.int p2), .val (.int p3)] [(.int p1)])) t
    refine XS.iloadN X0.here hx rfl (hb hby clr_d1) rfl ?_
    exact kt
  obtain ⟨j23_s0_2, hj23_s0_2, K10⟩ : ∃ (j23_s0_2 : Int32), j23_s0_2 = (if p1 < p2 then (1 : Int32) else (if p1 < p3 then (if (fa (p1).toNatClampNeg) = (9 : Int32) then (0 : Int32) else (1 : Int32)) else (1 : Int32))) ∧ ∀ t, Steps p.tables e below (s₁.setTop (mkF m 23 #[.val (.ref r0), .val (.int p1), .val (.int p2), .val (.int p3)] [(.int j23_s0_2)])) t → P0 t := by
    by_cases hc2 : p1 < p2
    · have K2 : ∀ t, Steps p.tables e below (s₁.setTop (mkF m 23 #[.val (.ref r0), .val (.int p1), .val (.int p2), .val (.int p3)] [(.int (1 : Int32))])) t → P0 t := by
        intro t kt
        refine K1 t ?_
        show Steps p.tables e below (s₁.setTop (mkF m 2 #[.val (.ref r0), .val (.int p1), .val (.int p2), .val (.int p3)] [(.int p2), (.int p1)])) t
        refine XS.icmpYes X0.here hx rfl (pc0 := 2) (pc' := 18) rfl (hb hby clr_d2) rfl (tlt hc2).1 (by decide) (by decide) ?_
        show Steps p.tables e below (s₁.setTop (mkF m 18 #[.val (.ref r0), .val (.int p1), .val (.int p2), .val (.int p3)] [])) t
        refine XS.iconst X0.here hx rfl (hb hby clr_d18) ?_
        show Steps p.tables e below (s₁.setTop (mkF m 19 #[.val (.ref r0), .val (.int p1), .val (.int p2), .val (.int p3)] [(.int (1 : Int32))])) t
        refine XS.goto X0.here hx rfl (pc0 := 19) (pc' := 23) rfl (hb hby clr_d19) (by decide) (by decide) ?_
        exact kt
      exact ⟨_, (if_pos hc2).symm, K2⟩
    · have K3 : ∀ t, Steps p.tables e below (s₁.setTop (mkF m 7 #[.val (.ref r0), .val (.int p1), .val (.int p2), .val (.int p3)] [(.int p3), (.int p1)])) t → P0 t := by
        intro t kt
        refine K1 t ?_
        show Steps p.tables e below (s₁.setTop (mkF m 2 #[.val (.ref r0), .val (.int p1), .val (.int p2), .val (.int p3)] [(.int p2), (.int p1)])) t
        refine XS.icmpNo X0.here hx rfl (hb hby clr_d2) rfl (flt hc2).1 ?_
        show Steps p.tables e below (s₁.setTop (mkF m 5 #[.val (.ref r0), .val (.int p1), .val (.int p2), .val (.int p3)] [])) t
        refine XS.iloadN X0.here hx rfl (hb hby clr_d5) rfl ?_
        show Steps p.tables e below (s₁.setTop (mkF m 6 #[.val (.ref r0), .val (.int p1), .val (.int p2), .val (.int p3)] [(.int p1)])) t
        refine XS.iloadN X0.here hx rfl (hb hby clr_d6) rfl ?_
        exact kt
      obtain ⟨j23_s0_1, hj23_s0_1, K9⟩ : ∃ (j23_s0_1 : Int32), j23_s0_1 = (if p1 < p3 then (if (fa (p1).toNatClampNeg) = (9 : Int32) then (0 : Int32) else (1 : Int32)) else (1 : Int32)) ∧ ∀ t, Steps p.tables e below (s₁.setTop (mkF m 23 #[.val (.ref r0), .val (.int p1), .val (.int p2), .val (.int p3)] [(.int j23_s0_1)])) t → P0 t := by
        by_cases hc7 : p1 < p3
        · have K4 : ∀ t, Steps p.tables e below (s₁.setTop (mkF m 15 #[.val (.ref r0), .val (.int p1), .val (.int p2), .val (.int p3)] [(.int (9 : Int32)), (.int (fa (p1).toNatClampNeg))])) t → P0 t := by
            intro t kt
            refine K3 t ?_
            show Steps p.tables e below (s₁.setTop (mkF m 7 #[.val (.ref r0), .val (.int p1), .val (.int p2), .val (.int p3)] [(.int p3), (.int p1)])) t
            refine XS.icmpNo X0.here hx rfl (hb hby clr_d7) rfl (tlt hc7).2.1 ?_
            show Steps p.tables e below (s₁.setTop (mkF m 10 #[.val (.ref r0), .val (.int p1), .val (.int p2), .val (.int p3)] [])) t
            refine XS.aloadN X0.here hx rfl (hb hby clr_d10) rfl rfl ?_
            show Steps p.tables e below (s₁.setTop (mkF m 11 #[.val (.ref r0), .val (.int p1), .val (.int p2), .val (.int p3)] [(.ref r0)])) t
            refine XS.iloadN X0.here hx rfl (hb hby clr_d11) rfl ?_
            show Steps p.tables e below (s₁.setTop (mkF m 12 #[.val (.ref r0), .val (.int p1), .val (.int p2), .val (.int p3)] [(.int p1), (.ref r0)])) t
            refine ldBA X0 hx hZ e0 Va (j := p1) hin (g := (mkF m 12 #[.val (.ref r0), .val (.int p1), .val (.int p2), .val (.int p3)] [(.int p1), (.ref r0)])) rfl rfl (hb hby clr_d12) _ ?_
            show Steps p.tables e below (s₁.setTop (mkF m 13 #[.val (.ref r0), .val (.int p1), .val (.int p2), .val (.int p3)] [(.int (fa (p1).toNatClampNeg))])) t
            refine XS.bipush X0.here hx rfl (hb hby clr_d13) ?_
            exact kt
          obtain ⟨j23_s0, hj23_s0, K7⟩ : ∃ (j23_s0 : Int32), j23_s0 = (if (fa (p1).toNatClampNeg) = (9 : Int32) then (0 : Int32) else (1 : Int32)) ∧ ∀ t, Steps p.tables e below (s₁.setTop (mkF m 23 #[.val (.ref r0), .val (.int p1), .val (.int p2), .val (.int p3)] [(.int j23_s0)])) t → P0 t := by
            by_cases hc15 : (fa (p1).toNatClampNeg) = (9 : Int32)
            · have K5 : ∀ t, Steps p.tables e below (s₁.setTop (mkF m 23 #[.val (.ref r0), .val (.int p1), .val (.int p2), .val (.int p3)] [(.int (0 : Int32))])) t → P0 t := by
                intro t kt
                refine K4 t ?_
                show Steps p.tables e below (s₁.setTop (mkF m 15 #[.val (.ref r0), .val (.int p1), .val (.int p2), .val (.int p3)] [(.int (9 : Int32)), (.int (fa (p1).toNatClampNeg))])) t
                refine XS.icmpYes X0.here hx rfl (pc0 := 15) (pc' := 22) rfl (hb hby clr_d15) rfl (teq hc15).1 (by decide) (by decide) ?_
                show Steps p.tables e below (s₁.setTop (mkF m 22 #[.val (.ref r0), .val (.int p1), .val (.int p2), .val (.int p3)] [])) t
                refine XS.iconst X0.here hx rfl (hb hby clr_d22) ?_
                exact kt
              exact ⟨_, (if_pos hc15).symm, K5⟩
            · have K6 : ∀ t, Steps p.tables e below (s₁.setTop (mkF m 23 #[.val (.ref r0), .val (.int p1), .val (.int p2), .val (.int p3)] [(.int (1 : Int32))])) t → P0 t := by
                intro t kt
                refine K4 t ?_
                show Steps p.tables e below (s₁.setTop (mkF m 15 #[.val (.ref r0), .val (.int p1), .val (.int p2), .val (.int p3)] [(.int (9 : Int32)), (.int (fa (p1).toNatClampNeg))])) t
                refine XS.icmpNo X0.here hx rfl (hb hby clr_d15) rfl (feq hc15).1 ?_
                show Steps p.tables e below (s₁.setTop (mkF m 18 #[.val (.ref r0), .val (.int p1), .val (.int p2), .val (.int p3)] [])) t
                refine XS.iconst X0.here hx rfl (hb hby clr_d18) ?_
                show Steps p.tables e below (s₁.setTop (mkF m 19 #[.val (.ref r0), .val (.int p1), .val (.int p2), .val (.int p3)] [(.int (1 : Int32))])) t
                refine XS.goto X0.here hx rfl (pc0 := 19) (pc' := 23) rfl (hb hby clr_d19) (by decide) (by decide) ?_
                exact kt
              exact ⟨_, (if_neg hc15).symm, K6⟩
          subst hj23_s0
          exact ⟨_, (if_pos hc7).symm, K7⟩
        · have K8 : ∀ t, Steps p.tables e below (s₁.setTop (mkF m 23 #[.val (.ref r0), .val (.int p1), .val (.int p2), .val (.int p3)] [(.int (1 : Int32))])) t → P0 t := by
            intro t kt
            refine K3 t ?_
            show Steps p.tables e below (s₁.setTop (mkF m 7 #[.val (.ref r0), .val (.int p1), .val (.int p2), .val (.int p3)] [(.int p3), (.int p1)])) t
            refine XS.icmpYes X0.here hx rfl (pc0 := 7) (pc' := 18) rfl (hb hby clr_d7) rfl (flt hc7).2.1 (by decide) (by decide) ?_
            show Steps p.tables e below (s₁.setTop (mkF m 18 #[.val (.ref r0), .val (.int p1), .val (.int p2), .val (.int p3)] [])) t
            refine XS.iconst X0.here hx rfl (hb hby clr_d18) ?_
            show Steps p.tables e below (s₁.setTop (mkF m 19 #[.val (.ref r0), .val (.int p1), .val (.int p2), .val (.int p3)] [(.int (1 : Int32))])) t
            refine XS.goto X0.here hx rfl (pc0 := 19) (pc' := 23) rfl (hb hby clr_d19) (by decide) (by decide) ?_
            exact kt
          exact ⟨_, (if_neg hc7).symm, K8⟩
      subst hj23_s0_1
      exact ⟨_, (if_neg hc2).symm, K9⟩
  obtain ⟨fs, hr, hrun, hended, hW, hsame⟩ := X0.leave (v := some (.int (nar .boolean j23_s0_2))) (fun h => by rw [Bd.returns] at h; cases h)
  refine ⟨_, _, ?_, hrun, hended, _, _, rfl, ?_, ⟨_, rfl⟩, hW, hsame.mono (by decide) (by decide)⟩
  · skip
    have q := K10 _ (retN X0 hx (t := .boolean) Bd.returns (by simp) (hb hby clr_d23) hr)
    rw [hP0] at q; exact q
  · show QP (.int (fClr p1 p2 p3 fa)) h0 n0 _ s₁.heap _
    rw [e0]
    subst hj23_s0_2
    exact ⟨rfl, N0, rfl⟩
theorem own_clr {f : Nat → Int32} {a r : Nat} (ha : a ≤ 6) (hr : r ≤ 6) (i : Nat) (hi : i < 6) (h : ∀ j, a ≤ j → j < r → f j ≠ 9) : fClr (Int32.ofNat i) (Int32.ofNat a) (Int32.ofNat r) f ≠ 0 := by
  have b1 : nar .boolean (1 : Int32) ≠ 0 := by decide
  simp only [fClr]
  by_cases q : i < a
  · rw [if_pos ((own_ofNat_lt (by omega) (by omega)).mpr q)]; exact b1
  · rw [if_neg (fun z => q ((own_ofNat_lt (by omega) (by omega)).mp z))]
    by_cases u : i < r
    · rw [if_pos ((own_ofNat_lt (by omega) (by omega)).mpr u), own_ofNat_nat (by omega), if_neg (h i (by omega) u)]; exact b1
    · rw [if_neg (fun z => u ((own_ofNat_lt (by omega) (by omega)).mp z))]; exact b1
theorem own_plain (q0 : Int64) (p1 : Int32) (p2 : Int32) (p3 : Int32) (f2 : Nat → Int32) (f15 : Nat → Int32) (f25 : Nat → Int32) (f35 : Nat → Int32) (f45 : Nat → Int32) (f55 : Nat → Int32) (f65 : Nat → Int32) (v73 : Int32) (v89 : Int32) (a : Nat) (b : Nat) (v100 : Int32) (jx106 : Int32)
    (hf2 : f2 = (fun _ => (0 : Int32)))
    (hf15 : f15 = (upd f2 ((0 : Int32)).toNatClampNeg (nar .byte (fPick q0 p1 (0 : Int32)))))
    (hf25 : f25 = (upd f15 ((1 : Int32)).toNatClampNeg (nar .byte (fPick q0 p1 (1 : Int32)))))
    (hf35 : f35 = (upd f25 ((2 : Int32)).toNatClampNeg (nar .byte (fPick q0 p1 (2 : Int32)))))
    (hf45 : f45 = (upd f35 ((3 : Int32)).toNatClampNeg (nar .byte (fPick q0 p1 (3 : Int32)))))
    (hf55 : f55 = (upd f45 ((4 : Int32)).toNatClampNeg (nar .byte (fPick q0 p1 (4 : Int32)))))
    (hf65 : f65 = (upd f55 ((5 : Int32)).toNatClampNeg (nar .byte (fPick q0 p1 (5 : Int32)))))
    (hv73 : v73 = ((p2 &&& (2147483647 : Int32)) % (7 : Int32)))
    (hv89 : v89 = (v73 + ((p3 &&& (2147483647 : Int32)) % ((7 : Int32) - v73))))
    (hna : v73 = Int32.ofNat a)
    (hnb : v89 = Int32.ofNat b)
    (hab : a ≤ b)
    (hb6 : b ≤ 6)
    (hv100 : v100 = (Int32.ofNat (scan f65 a (b - a))))
    (hjx106 : jx106 = (if v100 < v73 then (0 : Int32) else (if v89 < v100 then (0 : Int32) else (if v100 < v89 then (if (f65 (v100).toNatClampNeg) = (9 : Int32) then (if (fClr (0 : Int32) v73 v100 f65) = (0 : Int32) then (0 : Int32) else (if (fClr (1 : Int32) v73 v100 f65) = (0 : Int32) then (0 : Int32) else (if (fClr (2 : Int32) v73 v100 f65) = (0 : Int32) then (0 : Int32) else (if (fClr (3 : Int32) v73 v100 f65) = (0 : Int32) then (0 : Int32) else (if (fClr (4 : Int32) v73 v100 f65) = (0 : Int32) then (0 : Int32) else (if (fClr (5 : Int32) v73 v100 f65) = (0 : Int32) then (0 : Int32) else (1 : Int32))))))) else (0 : Int32)) else (if (fClr (0 : Int32) v73 v100 f65) = (0 : Int32) then (0 : Int32) else (if (fClr (1 : Int32) v73 v100 f65) = (0 : Int32) then (0 : Int32) else (if (fClr (2 : Int32) v73 v100 f65) = (0 : Int32) then (0 : Int32) else (if (fClr (3 : Int32) v73 v100 f65) = (0 : Int32) then (0 : Int32) else (if (fClr (4 : Int32) v73 v100 f65) = (0 : Int32) then (0 : Int32) else (if (fClr (5 : Int32) v73 v100 f65) = (0 : Int32) then (0 : Int32) else (1 : Int32))))))))))) :
    jx106 = 1 := by
  obtain ⟨s1, s2, s3, s4⟩ := own_scan f65 (b - a) a
  have c := fun i hi => own_clr (f := f65) (a := a) (r := scan f65 a (b - a)) (by omega) (by omega) i hi s4
  rw [← hna, ← hv100] at c
  have n1 : ¬ v100 < v73 := by rw [hv100, hna, own_ofNat_lt (by omega) (by omega)]; omega
  have n2 : ¬ v89 < v100 := by rw [hv100, hnb, own_ofNat_lt (by omega) (by omega)]; omega
  rw [if_neg n1, if_neg n2] at hjx106
  have c0 : (fClr (0 : Int32) v73 v100 f65) ≠ 0 := c 0 (by decide)
  have c1 : (fClr (1 : Int32) v73 v100 f65) ≠ 0 := c 1 (by decide)
  have c2 : (fClr (2 : Int32) v73 v100 f65) ≠ 0 := c 2 (by decide)
  have c3 : (fClr (3 : Int32) v73 v100 f65) ≠ 0 := c 3 (by decide)
  have c4 : (fClr (4 : Int32) v73 v100 f65) ≠ 0 := c 4 (by decide)
  have c5 : (fClr (5 : Int32) v73 v100 f65) ≠ 0 := c 5 (by decide)
  rw [if_neg c0, if_neg c1, if_neg c2, if_neg c3, if_neg c4, if_neg c5] at hjx106
  by_cases q : v100 < v89
  · have q' := q
    rw [hv100, hnb, own_ofNat_lt (by omega) (by omega)] at q'
    have e : f65 v100.toNatClampNeg = 9 := by rw [hv100, own_ofNat_nat (by omega)]; exact s3 (by omega)
    rw [if_pos q, if_pos e] at hjx106; exact hjx106
  · rw [if_neg q] at hjx106; exact hjx106
theorem law_pn : plainName "com/example/lowtide/lowtide/ColumnsEndPinLaw" = true := by first | (simp [plainName, overriddenIn]; done) | decide +kernel
theorem law_pd0 : parseMethodDescriptor "(JII)B" = some ⟨[.long, .int, .int], some .byte⟩ := by decide +kernel
theorem law_pd1 : parseMethodDescriptor "([BII)I" = some ⟨[(.array .byte), .int, .int], some .int⟩ := by decide +kernel
theorem law_pd2 : parseMethodDescriptor "([BIII)Z" = some ⟨[(.array .byte), .int, .int, .int], some .boolean⟩ := by decide +kernel
theorem law_ef (m : MethodId) (x0 : Int64) (x1 : Int32) (x2 : Int32) (x3 : Int32) : entryFrame m #[(.long x0), (.int x1), (.int x2), (.int x3)] maxLocals = mkF m 0 #[.val (.long x0), .second, .val (.int x1), .val (.int x2), .val (.int x3), .unset, .unset, .unset, .unset] [] := by first | (simp [entryFrame, mkF, argsToLocals, Value.category, maxLocals]; done) | rfl
set_option maxRecDepth 65536 in
set_option maxHeartbeats 40000000 in
theorem rm_law (l : Launch) (Z : State) (a0 : Array Value) (hw : ∀ d ∈ tables_1, d.before a0 Z = true) (ws : List Jvm.Cond) (q0 : Int64) (p1 : Int32) (p2 : Int32) (p3 : Int32) (h0 : Heap) (n0 : Nat) (Z0 : n0 ≤ h0.size) :
    MetFree l x (head1 (Jvm.Cond.code x code maxLocals ret :: ws) room_1) (fun a U => a = #[(.long q0), (.int p1), (.int p2), (.int p3)] ∧ Z.Warmed39 U.vm ∧ U.heap = h0) (fun _ _ _ _ _ => True) (fun _ U o U' => ∃ v L, o = .returned v ∧ QL n0 v U'.heap L ∧ FrameEnd U o U' L room_1.cells room_1.slots) := by
  refine MetFree.of_bodySF (plainFor_of_name law_pn) hisR ?_
  intro p e s m args below meth c s₁ Bd hml0 hP hK
  obtain ⟨rfl, hZ, hh⟩ := hP
  have hx := Bd.exec
  have hby := Bd.bytes
  have hml : c.maxLocals = 9 := hml0
  have hown : s.vm.findClass "com/example/lowtide/lowtide/ColumnsEndPinLaw" = some m.cls := findClass_of_methodNamed Bd.named
  have hnm := (name_of_methodNamed Bd.named Bd.method).1
  have X0 : Stand p l e room_1 s m #[(.long q0), (.int p1), (.int p2), (.int p3)] below meth c s₁ [] 0 0 := Stand.of_body Bd
  have e0 : s₁.heap = h0 := by rw [← hh, Bd.state]; rfl
  have N0 := Fr.nil n0
  obtain ⟨P0, hP0⟩ : ∃ P0 : State → Prop, P0 = fun t => Steps p.tables e below (s₁.setTop (entryFrame m #[(.long q0), (.int p1), (.int p2), (.int p3)] maxLocals)) t := ⟨_, rfl⟩
  have K0 : ∀ t, Steps p.tables e below (s₁.setTop (mkF m 0 #[.val (.long q0), .second, .val (.int p1), .val (.int p2), .val (.int p3), .unset, .unset, .unset, .unset] [])) t → P0 t := by
    intro t k; rw [hP0]; exact castTop (law_ef m q0 p1 p2 p3) k
  obtain ⟨T1, h1, k1, X1, e1, E1, A1, st1⟩ := newP X0 hx hZ (hw _ (List.mem_of_getElem? (i := 0) rfl)) e0 (g := (mkF m 2 #[.val (.long q0), .second, .val (.int p1), .val (.int p2), .val (.int p3), .unset, .unset, .unset, .unset] [(.int (6 : Int32))])) rfl (hb hby at_2) rfl (by decide) (cap := 6) (by decide) (by decide) (by decide) (by decide)
  obtain ⟨b2, g1⟩ : ∃ z, z = h0.size := ⟨_, rfl⟩
  have g_b2 : n0 ≤ b2 := Nat.le_trans Z0 (Nat.le_of_eq g1.symm)
  rw [← g1] at A1 st1
  have Z1 : n0 ≤ h1.size := Nat.le_trans Z0 E1.1
  obtain ⟨f2, hf2, V1⟩ : ∃ f2 : Nat → Int32, f2 = (fun _ => 0) ∧ IA Z h1 b2 .byte 6 f2 := ⟨_, rfl, IA.new A1 rfl rfl (by decide)⟩
  obtain ⟨_, _, ⟨T2, L2, k2, n2⟩, -, X2, ⟨Lc2, hQ2, l2, y2, z2⟩, st2⟩ := Jvm.LawKit.callS X1 hx (y := (⟨"com/example/lowtide/lowtide/ColumnsEndPinLaw", "pick", "(JII)B"⟩ : MethodName)) hown (mvT hZ (hw _ (List.mem_of_getElem? (i := 1) rfl))) (mvT hZ (hw _ (List.mem_of_getElem? (i := 2) rfl))) (mvT hZ (hw _ (List.mem_of_getElem? (i := 3) rfl))) (mvT hZ (hw _ (List.mem_of_getElem? (i := 4) rfl))) (by decide) (backOf (W := 2) (rm_pck l Z a0 hw [] q0 p1 (0 : Int32) h1 n0 Z1 ) hZ (hw _ (List.mem_of_getElem? (i := 4) rfl)) (hw _ (List.mem_of_getElem? (i := 3) rfl)) (by decide) (by decide)) (g := (mkF m 12 #[.val (.long q0), .second, .val (.int p1), .val (.int p2), .val (.int p3), .val (.ref b2), .unset, .unset, .unset] [(.int (0 : Int32)), (.int p1), (.long q0), (.int (0 : Int32)), (.ref b2)])) rfl (by rw [hml]; rfl) (argsL := [(.long q0), (.int p1), (.int (0 : Int32))]) (rest := [(.int (0 : Int32)), (.ref b2)]) (lenOf law_pd0 rfl) rfl (by show 2 * 0 + _ ≤ _; exact Nat.le_of_eq rfl) (hb hby at_12) (fun _ _ => ⟨rfl, e1, (by decide : 1 + 0 ≤ _), (by decide : 6 + 0 ≤ _)⟩)
  dsimp only [Pt.U, Pt.locs, Pt.cells, Pt.slots] at X2 l2 y2 z2 st2 hQ2
  subst l2 y2 z2
  obtain ⟨rfl, N2q, e2⟩ := hQ2
  have N2 := Fr.app N0 N2q
  obtain ⟨T3, h3, X3, e3, ⟨sl3, vv3, W3⟩, V3, st3⟩ := stBA X2 hx hZ e2 V1 (j := (0 : Int32)) (x := (fPick q0 p1 (0 : Int32))) (by decide) (g := (mkF m 15 #[.val (.long q0), .second, .val (.int p1), .val (.int p2), .val (.int p3), .val (.ref b2), .unset, .unset, .unset] [(.int (fPick q0 p1 (0 : Int32))), (.int (0 : Int32)), (.ref b2)])) rfl rfl (hb hby at_15)
  have Z3 : n0 ≤ h3.size := Nat.le_trans Z1 (Keep.of_wr W3).1
  have N3 := Fr.snoc X3 N2 g_b2
  obtain ⟨f15, hf15, V3'⟩ : ∃ f15 : Nat → Int32, f15 = (upd f2 ((0 : Int32)).toNatClampNeg (nar .byte (fPick q0 p1 (0 : Int32)))) ∧ IA Z h3 b2 .byte 6 f15 := ⟨_, rfl, V3⟩
  obtain ⟨_, _, ⟨T4, L4, k4, n4⟩, -, X4, ⟨Lc4, hQ4, l4, y4, z4⟩, st4⟩ := Jvm.LawKit.callS X3 hx (y := (⟨"com/example/lowtide/lowtide/ColumnsEndPinLaw", "pick", "(JII)B"⟩ : MethodName)) hown (mvT hZ (hw _ (List.mem_of_getElem? (i := 1) rfl))) (mvT hZ (hw _ (List.mem_of_getElem? (i := 2) rfl))) (mvT hZ (hw _ (List.mem_of_getElem? (i := 3) rfl))) (mvT hZ (hw _ (List.mem_of_getElem? (i := 4) rfl))) (by decide) (backOf (W := 2) (rm_pck l Z a0 hw [] q0 p1 (1 : Int32) h3 n0 Z3 ) hZ (hw _ (List.mem_of_getElem? (i := 4) rfl)) (hw _ (List.mem_of_getElem? (i := 3) rfl)) (by decide) (by decide)) (g := (mkF m 22 #[.val (.long q0), .second, .val (.int p1), .val (.int p2), .val (.int p3), .val (.ref b2), .unset, .unset, .unset] [(.int (1 : Int32)), (.int p1), (.long q0), (.int (1 : Int32)), (.ref b2)])) rfl (by rw [hml]; rfl) (argsL := [(.long q0), (.int p1), (.int (1 : Int32))]) (rest := [(.int (1 : Int32)), (.ref b2)]) (lenOf law_pd0 rfl) rfl (by show 2 * 0 + _ ≤ _; exact Nat.le_of_eq rfl) (hb hby at_22) (fun _ _ => ⟨rfl, e3, (by decide : 1 + 0 ≤ _), (by decide : 6 + 0 ≤ _)⟩)
  dsimp only [Pt.U, Pt.locs, Pt.cells, Pt.slots] at X4 l4 y4 z4 st4 hQ4
  subst l4 y4 z4
  obtain ⟨rfl, N4q, e4⟩ := hQ4
  have N4 := Fr.app N3 N4q
  obtain ⟨T5, h5, X5, e5, ⟨sl5, vv5, W5⟩, V5, st5⟩ := stBA X4 hx hZ e4 V3' (j := (1 : Int32)) (x := (fPick q0 p1 (1 : Int32))) (by decide) (g := (mkF m 25 #[.val (.long q0), .second, .val (.int p1), .val (.int p2), .val (.int p3), .val (.ref b2), .unset, .unset, .unset] [(.int (fPick q0 p1 (1 : Int32))), (.int (1 : Int32)), (.ref b2)])) rfl rfl (hb hby at_25)
  have Z5 : n0 ≤ h5.size := Nat.le_trans Z3 (Keep.of_wr W5).1
  have N5 := Fr.snoc X5 N4 g_b2
  obtain ⟨f25, hf25, V5'⟩ : ∃ f25 : Nat → Int32, f25 = (upd f15 ((1 : Int32)).toNatClampNeg (nar .byte (fPick q0 p1 (1 : Int32)))) ∧ IA Z h5 b2 .byte 6 f25 := ⟨_, rfl, V5⟩
  obtain ⟨_, _, ⟨T6, L6, k6, n6⟩, -, X6, ⟨Lc6, hQ6, l6, y6, z6⟩, st6⟩ := Jvm.LawKit.callS X5 hx (y := (⟨"com/example/lowtide/lowtide/ColumnsEndPinLaw", "pick", "(JII)B"⟩ : MethodName)) hown (mvT hZ (hw _ (List.mem_of_getElem? (i := 1) rfl))) (mvT hZ (hw _ (List.mem_of_getElem? (i := 2) rfl))) (mvT hZ (hw _ (List.mem_of_getElem? (i := 3) rfl))) (mvT hZ (hw _ (List.mem_of_getElem? (i := 4) rfl))) (by decide) (backOf (W := 2) (rm_pck l Z a0 hw [] q0 p1 (2 : Int32) h5 n0 Z5 ) hZ (hw _ (List.mem_of_getElem? (i := 4) rfl)) (hw _ (List.mem_of_getElem? (i := 3) rfl)) (by decide) (by decide)) (g := (mkF m 32 #[.val (.long q0), .second, .val (.int p1), .val (.int p2), .val (.int p3), .val (.ref b2), .unset, .unset, .unset] [(.int (2 : Int32)), (.int p1), (.long q0), (.int (2 : Int32)), (.ref b2)])) rfl (by rw [hml]; rfl) (argsL := [(.long q0), (.int p1), (.int (2 : Int32))]) (rest := [(.int (2 : Int32)), (.ref b2)]) (lenOf law_pd0 rfl) rfl (by show 2 * 0 + _ ≤ _; exact Nat.le_of_eq rfl) (hb hby at_32) (fun _ _ => ⟨rfl, e5, (by decide : 1 + 0 ≤ _), (by decide : 6 + 0 ≤ _)⟩)
  dsimp only [Pt.U, Pt.locs, Pt.cells, Pt.slots] at X6 l6 y6 z6 st6 hQ6
  subst l6 y6 z6
  obtain ⟨rfl, N6q, e6⟩ := hQ6
  have N6 := Fr.app N5 N6q
  obtain ⟨T7, h7, X7, e7, ⟨sl7, vv7, W7⟩, V7, st7⟩ := stBA X6 hx hZ e6 V5' (j := (2 : Int32)) (x := (fPick q0 p1 (2 : Int32))) (by decide) (g := (mkF m 35 #[.val (.long q0), .second, .val (.int p1), .val (.int p2), .val (.int p3), .val (.ref b2), .unset, .unset, .unset] [(.int (fPick q0 p1 (2 : Int32))), (.int (2 : Int32)), (.ref b2)])) rfl rfl (hb hby at_35)
  have Z7 : n0 ≤ h7.size := Nat.le_trans Z5 (Keep.of_wr W7).1
  have N7 := Fr.snoc X7 N6 g_b2
  obtain ⟨f35, hf35, V7'⟩ : ∃ f35 : Nat → Int32, f35 = (upd f25 ((2 : Int32)).toNatClampNeg (nar .byte (fPick q0 p1 (2 : Int32)))) ∧ IA Z h7 b2 .byte 6 f35 := ⟨_, rfl, V7⟩
  obtain ⟨_, _, ⟨T8, L8, k8, n8⟩, -, X8, ⟨Lc8, hQ8, l8, y8, z8⟩, st8⟩ := Jvm.LawKit.callS X7 hx (y := (⟨"com/example/lowtide/lowtide/ColumnsEndPinLaw", "pick", "(JII)B"⟩ : MethodName)) hown (mvT hZ (hw _ (List.mem_of_getElem? (i := 1) rfl))) (mvT hZ (hw _ (List.mem_of_getElem? (i := 2) rfl))) (mvT hZ (hw _ (List.mem_of_getElem? (i := 3) rfl))) (mvT hZ (hw _ (List.mem_of_getElem? (i := 4) rfl))) (by decide) (backOf (W := 2) (rm_pck l Z a0 hw [] q0 p1 (3 : Int32) h7 n0 Z7 ) hZ (hw _ (List.mem_of_getElem? (i := 4) rfl)) (hw _ (List.mem_of_getElem? (i := 3) rfl)) (by decide) (by decide)) (g := (mkF m 42 #[.val (.long q0), .second, .val (.int p1), .val (.int p2), .val (.int p3), .val (.ref b2), .unset, .unset, .unset] [(.int (3 : Int32)), (.int p1), (.long q0), (.int (3 : Int32)), (.ref b2)])) rfl (by rw [hml]; rfl) (argsL := [(.long q0), (.int p1), (.int (3 : Int32))]) (rest := [(.int (3 : Int32)), (.ref b2)]) (lenOf law_pd0 rfl) rfl (by show 2 * 0 + _ ≤ _; exact Nat.le_of_eq rfl) (hb hby at_42) (fun _ _ => ⟨rfl, e7, (by decide : 1 + 0 ≤ _), (by decide : 6 + 0 ≤ _)⟩)
  dsimp only [Pt.U, Pt.locs, Pt.cells, Pt.slots] at X8 l8 y8 z8 st8 hQ8
  subst l8 y8 z8
  obtain ⟨rfl, N8q, e8⟩ := hQ8
  have N8 := Fr.app N7 N8q
  obtain ⟨T9, h9, X9, e9, ⟨sl9, vv9, W9⟩, V9, st9⟩ := stBA X8 hx hZ e8 V7' (j := (3 : Int32)) (x := (fPick q0 p1 (3 : Int32))) (by decide) (g := (mkF m 45 #[.val (.long q0), .second, .val (.int p1), .val (.int p2), .val (.int p3), .val (.ref b2), .unset, .unset, .unset] [(.int (fPick q0 p1 (3 : Int32))), (.int (3 : Int32)), (.ref b2)])) rfl rfl (hb hby at_45)
  have Z9 : n0 ≤ h9.size := Nat.le_trans Z7 (Keep.of_wr W9).1
  have N9 := Fr.snoc X9 N8 g_b2
  obtain ⟨f45, hf45, V9'⟩ : ∃ f45 : Nat → Int32, f45 = (upd f35 ((3 : Int32)).toNatClampNeg (nar .byte (fPick q0 p1 (3 : Int32)))) ∧ IA Z h9 b2 .byte 6 f45 := ⟨_, rfl, V9⟩
  obtain ⟨_, _, ⟨T10, L10, k10, n10⟩, -, X10, ⟨Lc10, hQ10, l10, y10, z10⟩, st10⟩ := Jvm.LawKit.callS X9 hx (y := (⟨"com/example/lowtide/lowtide/ColumnsEndPinLaw", "pick", "(JII)B"⟩ : MethodName)) hown (mvT hZ (hw _ (List.mem_of_getElem? (i := 1) rfl))) (mvT hZ (hw _ (List.mem_of_getElem? (i := 2) rfl))) (mvT hZ (hw _ (List.mem_of_getElem? (i := 3) rfl))) (mvT hZ (hw _ (List.mem_of_getElem? (i := 4) rfl))) (by decide) (backOf (W := 2) (rm_pck l Z a0 hw [] q0 p1 (4 : Int32) h9 n0 Z9 ) hZ (hw _ (List.mem_of_getElem? (i := 4) rfl)) (hw _ (List.mem_of_getElem? (i := 3) rfl)) (by decide) (by decide)) (g := (mkF m 52 #[.val (.long q0), .second, .val (.int p1), .val (.int p2), .val (.int p3), .val (.ref b2), .unset, .unset, .unset] [(.int (4 : Int32)), (.int p1), (.long q0), (.int (4 : Int32)), (.ref b2)])) rfl (by rw [hml]; rfl) (argsL := [(.long q0), (.int p1), (.int (4 : Int32))]) (rest := [(.int (4 : Int32)), (.ref b2)]) (lenOf law_pd0 rfl) rfl (by show 2 * 0 + _ ≤ _; exact Nat.le_of_eq rfl) (hb hby at_52) (fun _ _ => ⟨rfl, e9, (by decide : 1 + 0 ≤ _), (by decide : 6 + 0 ≤ _)⟩)
  dsimp only [Pt.U, Pt.locs, Pt.cells, Pt.slots] at X10 l10 y10 z10 st10 hQ10
  subst l10 y10 z10
  obtain ⟨rfl, N10q, e10⟩ := hQ10
  have N10 := Fr.app N9 N10q
  obtain ⟨T11, h11, X11, e11, ⟨sl11, vv11, W11⟩, V11, st11⟩ := stBA X10 hx hZ e10 V9' (j := (4 : Int32)) (x := (fPick q0 p1 (4 : Int32))) (by decide) (g := (mkF m 55 #[.val (.long q0), .second, .val (.int p1), .val (.int p2), .val (.int p3), .val (.ref b2), .unset, .unset, .unset] [(.int (fPick q0 p1 (4 : Int32))), (.int (4 : Int32)), (.ref b2)])) rfl rfl (hb hby at_55)
  have Z11 : n0 ≤ h11.size := Nat.le_trans Z9 (Keep.of_wr W11).1
  have N11 := Fr.snoc X11 N10 g_b2
  obtain ⟨f55, hf55, V11'⟩ : ∃ f55 : Nat → Int32, f55 = (upd f45 ((4 : Int32)).toNatClampNeg (nar .byte (fPick q0 p1 (4 : Int32)))) ∧ IA Z h11 b2 .byte 6 f55 := ⟨_, rfl, V11⟩
  obtain ⟨_, _, ⟨T12, L12, k12, n12⟩, -, X12, ⟨Lc12, hQ12, l12, y12, z12⟩, st12⟩ := Jvm.LawKit.callS X11 hx (y := (⟨"com/example/lowtide/lowtide/ColumnsEndPinLaw", "pick", "(JII)B"⟩ : MethodName)) hown (mvT hZ (hw _ (List.mem_of_getElem? (i := 1) rfl))) (mvT hZ (hw _ (List.mem_of_getElem? (i := 2) rfl))) (mvT hZ (hw _ (List.mem_of_getElem? (i := 3) rfl))) (mvT hZ (hw _ (List.mem_of_getElem? (i := 4) rfl))) (by decide) (backOf (W := 2) (rm_pck l Z a0 hw [] q0 p1 (5 : Int32) h11 n0 Z11 ) hZ (hw _ (List.mem_of_getElem? (i := 4) rfl)) (hw _ (List.mem_of_getElem? (i := 3) rfl)) (by decide) (by decide)) (g := (mkF m 62 #[.val (.long q0), .second, .val (.int p1), .val (.int p2), .val (.int p3), .val (.ref b2), .unset, .unset, .unset] [(.int (5 : Int32)), (.int p1), (.long q0), (.int (5 : Int32)), (.ref b2)])) rfl (by rw [hml]; rfl) (argsL := [(.long q0), (.int p1), (.int (5 : Int32))]) (rest := [(.int (5 : Int32)), (.ref b2)]) (lenOf law_pd0 rfl) rfl (by show 2 * 0 + _ ≤ _; exact Nat.le_of_eq rfl) (hb hby at_62) (fun _ _ => ⟨rfl, e11, (by decide : 1 + 0 ≤ _), (by decide : 6 + 0 ≤ _)⟩)
  dsimp only [Pt.U, Pt.locs, Pt.cells, Pt.slots] at X12 l12 y12 z12 st12 hQ12
  subst l12 y12 z12
  obtain ⟨rfl, N12q, e12⟩ := hQ12
  have N12 := Fr.app N11 N12q
  obtain ⟨T13, h13, X13, e13, ⟨sl13, vv13, W13⟩, V13, st13⟩ := stBA X12 hx hZ e12 V11' (j := (5 : Int32)) (x := (fPick q0 p1 (5 : Int32))) (by decide) (g := (mkF m 65 #[.val (.long q0), .second, .val (.int p1), .val (.int p2), .val (.int p3), .val (.ref b2), .unset, .unset, .unset] [(.int (fPick q0 p1 (5 : Int32))), (.int (5 : Int32)), (.ref b2)])) rfl rfl (hb hby at_65)
  have Z13 : n0 ≤ h13.size := Nat.le_trans Z11 (Keep.of_wr W13).1
  have N13 := Fr.snoc X13 N12 g_b2
  obtain ⟨f65, hf65, V13'⟩ : ∃ f65 : Nat → Int32, f65 = (upd f55 ((5 : Int32)).toNatClampNeg (nar .byte (fPick q0 p1 (5 : Int32)))) ∧ IA Z h13 b2 .byte 6 f65 := ⟨_, rfl, V13⟩
  have K14 : ∀ t, Steps p.tables e below (T13.setTop (mkF m 75 #[.val (.long q0), .second, .val (.int p1), .val (.int p2), .val (.int p3), .val (.ref b2), .val (.int ((p2 &&& (2147483647 : Int32)) % (7 : Int32))), .unset, .unset] [])) t → P0 t := by
    intro t kt
    refine K0 t ?_
    show Steps p.tables e below (s₁.setTop (mkF m 0 #[.val (.long q0), .second, .val (.int p1), .val (.int p2), .val (.int p3), .unset, .unset, .unset, .unset] [])) t
    refine XS.bipush X0.here hx rfl (hb hby at_0) ?_
    show Steps p.tables e below (s₁.setTop (mkF m 2 #[.val (.long q0), .second, .val (.int p1), .val (.int p2), .val (.int p3), .unset, .unset, .unset, .unset] [(.int (6 : Int32))])) t
    refine st1 _ ?_
    show Steps p.tables e below (T1.setTop (mkF m 4 #[.val (.long q0), .second, .val (.int p1), .val (.int p2), .val (.int p3), .unset, .unset, .unset, .unset] [(.ref b2)])) t
    refine XS.astore X1.here hx rfl (hb hby at_4) rfl rfl (l' := #[.val (.long q0), .second, .val (.int p1), .val (.int p2), .val (.int p3), .val (.ref b2), .unset, .unset, .unset]) rfl ?_
    show Steps p.tables e below (T1.setTop (mkF m 6 #[.val (.long q0), .second, .val (.int p1), .val (.int p2), .val (.int p3), .val (.ref b2), .unset, .unset, .unset] [])) t
    refine XS.aload X1.here hx rfl (hb hby at_6) rfl rfl ?_
    show Steps p.tables e below (T1.setTop (mkF m 8 #[.val (.long q0), .second, .val (.int p1), .val (.int p2), .val (.int p3), .val (.ref b2), .unset, .unset, .unset] [(.ref b2)])) t
    refine XS.iconst X1.here hx rfl (hb hby at_8) ?_
    show Steps p.tables e below (T1.setTop (mkF m 9 #[.val (.long q0), .second, .val (.int p1), .val (.int p2), .val (.int p3), .val (.ref b2), .unset, .unset, .unset] [(.int (0 : Int32)), (.ref b2)])) t
    refine XS.lloadN X1.here hx rfl (hb hby at_9) rfl ?_
    show Steps p.tables e below (T1.setTop (mkF m 10 #[.val (.long q0), .second, .val (.int p1), .val (.int p2), .val (.int p3), .val (.ref b2), .unset, .unset, .unset] [(.long q0), (.int (0 : Int32)), (.ref b2)])) t
    refine XS.iloadN X1.here hx rfl (hb hby at_10) rfl ?_
    show Steps p.tables e below (T1.setTop (mkF m 11 #[.val (.long q0), .second, .val (.int p1), .val (.int p2), .val (.int p3), .val (.ref b2), .unset, .unset, .unset] [(.int p1), (.long q0), (.int (0 : Int32)), (.ref b2)])) t
    refine XS.iconst X1.here hx rfl (hb hby at_11) ?_
    show Steps p.tables e below (T1.setTop (mkF m 12 #[.val (.long q0), .second, .val (.int p1), .val (.int p2), .val (.int p3), .val (.ref b2), .unset, .unset, .unset] [(.int (0 : Int32)), (.int p1), (.long q0), (.int (0 : Int32)), (.ref b2)])) t
    refine st2 _ ?_
    show Steps p.tables e below (T2.setTop (mkF m 15 #[.val (.long q0), .second, .val (.int p1), .val (.int p2), .val (.int p3), .val (.ref b2), .unset, .unset, .unset] [(.int (fPick q0 p1 (0 : Int32))), (.int (0 : Int32)), (.ref b2)])) t
    refine st3 _ ?_
    show Steps p.tables e below (T3.setTop (mkF m 16 #[.val (.long q0), .second, .val (.int p1), .val (.int p2), .val (.int p3), .val (.ref b2), .unset, .unset, .unset] [])) t
    refine XS.aload X3.here hx rfl (hb hby at_16) rfl rfl ?_
    show Steps p.tables e below (T3.setTop (mkF m 18 #[.val (.long q0), .second, .val (.int p1), .val (.int p2), .val (.int p3), .val (.ref b2), .unset, .unset, .unset] [(.ref b2)])) t
    refine XS.iconst X3.here hx rfl (hb hby at_18) ?_
    show Steps p.tables e below (T3.setTop (mkF m 19 #[.val (.long q0), .second, .val (.int p1), .val (.int p2), .val (.int p3), .val (.ref b2), .unset, .unset, .unset] [(.int (1 : Int32)), (.ref b2)])) t
    refine XS.lloadN X3.here hx rfl (hb hby at_19) rfl ?_
    show Steps p.tables e below (T3.setTop (mkF m 20 #[.val (.long q0), .second, .val (.int p1), .val (.int p2), .val (.int p3), .val (.ref b2), .unset, .unset, .unset] [(.long q0), (.int (1 : Int32)), (.ref b2)])) t
    refine XS.iloadN X3.here hx rfl (hb hby at_20) rfl ?_
    show Steps p.tables e below (T3.setTop (mkF m 21 #[.val (.long q0), .second, .val (.int p1), .val (.int p2), .val (.int p3), .val (.ref b2), .unset, .unset, .unset] [(.int p1), (.long q0), (.int (1 : Int32)), (.ref b2)])) t
    refine XS.iconst X3.here hx rfl (hb hby at_21) ?_
    show Steps p.tables e below (T3.setTop (mkF m 22 #[.val (.long q0), .second, .val (.int p1), .val (.int p2), .val (.int p3), .val (.ref b2), .unset, .unset, .unset] [(.int (1 : Int32)), (.int p1), (.long q0), (.int (1 : Int32)), (.ref b2)])) t
    refine st4 _ ?_
    show Steps p.tables e below (T4.setTop (mkF m 25 #[.val (.long q0), .second, .val (.int p1), .val (.int p2), .val (.int p3), .val (.ref b2), .unset, .unset, .unset] [(.int (fPick q0 p1 (1 : Int32))), (.int (1 : Int32)), (.ref b2)])) t
    refine st5 _ ?_
    show Steps p.tables e below (T5.setTop (mkF m 26 #[.val (.long q0), .second, .val (.int p1), .val (.int p2), .val (.int p3), .val (.ref b2), .unset, .unset, .unset] [])) t
    refine XS.aload X5.here hx rfl (hb hby at_26) rfl rfl ?_
    show Steps p.tables e below (T5.setTop (mkF m 28 #[.val (.long q0), .second, .val (.int p1), .val (.int p2), .val (.int p3), .val (.ref b2), .unset, .unset, .unset] [(.ref b2)])) t
    refine XS.iconst X5.here hx rfl (hb hby at_28) ?_
    show Steps p.tables e below (T5.setTop (mkF m 29 #[.val (.long q0), .second, .val (.int p1), .val (.int p2), .val (.int p3), .val (.ref b2), .unset, .unset, .unset] [(.int (2 : Int32)), (.ref b2)])) t
    refine XS.lloadN X5.here hx rfl (hb hby at_29) rfl ?_
    show Steps p.tables e below (T5.setTop (mkF m 30 #[.val (.long q0), .second, .val (.int p1), .val (.int p2), .val (.int p3), .val (.ref b2), .unset, .unset, .unset] [(.long q0), (.int (2 : Int32)), (.ref b2)])) t
    refine XS.iloadN X5.here hx rfl (hb hby at_30) rfl ?_
    show Steps p.tables e below (T5.setTop (mkF m 31 #[.val (.long q0), .second, .val (.int p1), .val (.int p2), .val (.int p3), .val (.ref b2), .unset, .unset, .unset] [(.int p1), (.long q0), (.int (2 : Int32)), (.ref b2)])) t
    refine XS.iconst X5.here hx rfl (hb hby at_31) ?_
    show Steps p.tables e below (T5.setTop (mkF m 32 #[.val (.long q0), .second, .val (.int p1), .val (.int p2), .val (.int p3), .val (.ref b2), .unset, .unset, .unset] [(.int (2 : Int32)), (.int p1), (.long q0), (.int (2 : Int32)), (.ref b2)])) t
    refine st6 _ ?_
    show Steps p.tables e below (T6.setTop (mkF m 35 #[.val (.long q0), .second, .val (.int p1), .val (.int p2), .val (.int p3), .val (.ref b2), .unset, .unset, .unset] [(.int (fPick q0 p1 (2 : Int32))), (.int (2 : Int32)), (.ref b2)])) t
    refine st7 _ ?_
    show Steps p.tables e below (T7.setTop (mkF m 36 #[.val (.long q0), .second, .val (.int p1), .val (.int p2), .val (.int p3), .val (.ref b2), .unset, .unset, .unset] [])) t
    refine XS.aload X7.here hx rfl (hb hby at_36) rfl rfl ?_
    show Steps p.tables e below (T7.setTop (mkF m 38 #[.val (.long q0), .second, .val (.int p1), .val (.int p2), .val (.int p3), .val (.ref b2), .unset, .unset, .unset] [(.ref b2)])) t
    refine XS.iconst X7.here hx rfl (hb hby at_38) ?_
    show Steps p.tables e below (T7.setTop (mkF m 39 #[.val (.long q0), .second, .val (.int p1), .val (.int p2), .val (.int p3), .val (.ref b2), .unset, .unset, .unset] [(.int (3 : Int32)), (.ref b2)])) t
    refine XS.lloadN X7.here hx rfl (hb hby at_39) rfl ?_
    show Steps p.tables e below (T7.setTop (mkF m 40 #[.val (.long q0), .second, .val (.int p1), .val (.int p2), .val (.int p3), .val (.ref b2), .unset, .unset, .unset] [(.long q0), (.int (3 : Int32)), (.ref b2)])) t
    refine XS.iloadN X7.here hx rfl (hb hby at_40) rfl ?_
    show Steps p.tables e below (T7.setTop (mkF m 41 #[.val (.long q0), .second, .val (.int p1), .val (.int p2), .val (.int p3), .val (.ref b2), .unset, .unset, .unset] [(.int p1), (.long q0), (.int (3 : Int32)), (.ref b2)])) t
    refine XS.iconst X7.here hx rfl (hb hby at_41) ?_
    show Steps p.tables e below (T7.setTop (mkF m 42 #[.val (.long q0), .second, .val (.int p1), .val (.int p2), .val (.int p3), .val (.ref b2), .unset, .unset, .unset] [(.int (3 : Int32)), (.int p1), (.long q0), (.int (3 : Int32)), (.ref b2)])) t
    refine st8 _ ?_
    show Steps p.tables e below (T8.setTop (mkF m 45 #[.val (.long q0), .second, .val (.int p1), .val (.int p2), .val (.int p3), .val (.ref b2), .unset, .unset, .unset] [(.int (fPick q0 p1 (3 : Int32))), (.int (3 : Int32)), (.ref b2)])) t
    refine st9 _ ?_
    show Steps p.tables e below (T9.setTop (mkF m 46 #[.val (.long q0), .second, .val (.int p1), .val (.int p2), .val (.int p3), .val (.ref b2), .unset, .unset, .unset] [])) t
    refine XS.aload X9.here hx rfl (hb hby at_46) rfl rfl ?_
    show Steps p.tables e below (T9.setTop (mkF m 48 #[.val (.long q0), .second, .val (.int p1), .val (.int p2), .val (.int p3), .val (.ref b2), .unset, .unset, .unset] [(.ref b2)])) t
    refine XS.iconst X9.here hx rfl (hb hby at_48) ?_
    show Steps p.tables e below (T9.setTop (mkF m 49 #[.val (.long q0), .second, .val (.int p1), .val (.int p2), .val (.int p3), .val (.ref b2), .unset, .unset, .unset] [(.int (4 : Int32)), (.ref b2)])) t
    refine XS.lloadN X9.here hx rfl (hb hby at_49) rfl ?_
    show Steps p.tables e below (T9.setTop (mkF m 50 #[.val (.long q0), .second, .val (.int p1), .val (.int p2), .val (.int p3), .val (.ref b2), .unset, .unset, .unset] [(.long q0), (.int (4 : Int32)), (.ref b2)])) t
    refine XS.iloadN X9.here hx rfl (hb hby at_50) rfl ?_
    show Steps p.tables e below (T9.setTop (mkF m 51 #[.val (.long q0), .second, .val (.int p1), .val (.int p2), .val (.int p3), .val (.ref b2), .unset, .unset, .unset] [(.int p1), (.long q0), (.int (4 : Int32)), (.ref b2)])) t
    refine XS.iconst X9.here hx rfl (hb hby at_51) ?_
    show Steps p.tables e below (T9.setTop (mkF m 52 #[.val (.long q0), .second, .val (.int p1), .val (.int p2), .val (.int p3), .val (.ref b2), .unset, .unset, .unset] [(.int (4 : Int32)), (.int p1), (.long q0), (.int (4 : Int32)), (.ref b2)])) t
    refine st10 _ ?_
    show Steps p.tables e below (T10.setTop (mkF m 55 #[.val (.long q0), .second, .val (.int p1), .val (.int p2), .val (.int p3), .val (.ref b2), .unset, .unset, .unset] [(.int (fPick q0 p1 (4 : Int32))), (.int (4 : Int32)), (.ref b2)])) t
    refine st11 _ ?_
    show Steps p.tables e below (T11.setTop (mkF m 56 #[.val (.long q0), .second, .val (.int p1), .val (.int p2), .val (.int p3), .val (.ref b2), .unset, .unset, .unset] [])) t
    refine XS.aload X11.here hx rfl (hb hby at_56) rfl rfl ?_
    show Steps p.tables e below (T11.setTop (mkF m 58 #[.val (.long q0), .second, .val (.int p1), .val (.int p2), .val (.int p3), .val (.ref b2), .unset, .unset, .unset] [(.ref b2)])) t
    refine XS.iconst X11.here hx rfl (hb hby at_58) ?_
    show Steps p.tables e below (T11.setTop (mkF m 59 #[.val (.long q0), .second, .val (.int p1), .val (.int p2), .val (.int p3), .val (.ref b2), .unset, .unset, .unset] [(.int (5 : Int32)), (.ref b2)])) t
    refine XS.lloadN X11.here hx rfl (hb hby at_59) rfl ?_
    show Steps p.tables e below (T11.setTop (mkF m 60 #[.val (.long q0), .second, .val (.int p1), .val (.int p2), .val (.int p3), .val (.ref b2), .unset, .unset, .unset] [(.long q0), (.int (5 : Int32)), (.ref b2)])) t
    refine XS.iloadN X11.here hx rfl (hb hby at_60) rfl ?_
    show Steps p.tables e below (T11.setTop (mkF m 61 #[.val (.long q0), .second, .val (.int p1), .val (.int p2), .val (.int p3), .val (.ref b2), .unset, .unset, .unset] [(.int p1), (.long q0), (.int (5 : Int32)), (.ref b2)])) t
    refine XS.iconst X11.here hx rfl (hb hby at_61) ?_
    show Steps p.tables e below (T11.setTop (mkF m 62 #[.val (.long q0), .second, .val (.int p1), .val (.int p2), .val (.int p3), .val (.ref b2), .unset, .unset, .unset] [(.int (5 : Int32)), (.int p1), (.long q0), (.int (5 : Int32)), (.ref b2)])) t
    refine st12 _ ?_
    show Steps p.tables e below (T12.setTop (mkF m 65 #[.val (.long q0), .second, .val (.int p1), .val (.int p2), .val (.int p3), .val (.ref b2), .unset, .unset, .unset] [(.int (fPick q0 p1 (5 : Int32))), (.int (5 : Int32)), (.ref b2)])) t
    refine st13 _ ?_
    show Steps p.tables e below (T13.setTop (mkF m 66 #[.val (.long q0), .second, .val (.int p1), .val (.int p2), .val (.int p3), .val (.ref b2), .unset, .unset, .unset] [])) t
    refine XS.iloadN X13.here hx rfl (hb hby at_66) rfl ?_
    show Steps p.tables e below (T13.setTop (mkF m 67 #[.val (.long q0), .second, .val (.int p1), .val (.int p2), .val (.int p3), .val (.ref b2), .unset, .unset, .unset] [(.int p2)])) t
    refine X13.ldcInt hx hown (mvT hZ (hw _ (List.mem_of_getElem? (i := 5) rfl))) (g := (mkF m 67 #[.val (.long q0), .second, .val (.int p1), .val (.int p2), .val (.int p3), .val (.ref b2), .unset, .unset, .unset] [(.int p2)])) rfl (hb hby at_67) _ ?_
    show Steps p.tables e below (T13.setTop (mkF m 69 #[.val (.long q0), .second, .val (.int p1), .val (.int p2), .val (.int p3), .val (.ref b2), .unset, .unset, .unset] [(.int (2147483647 : Int32)), (.int p2)])) t
    refine XS.iand X13.here hx rfl (hb hby at_69) rfl ?_
    show Steps p.tables e below (T13.setTop (mkF m 70 #[.val (.long q0), .second, .val (.int p1), .val (.int p2), .val (.int p3), .val (.ref b2), .unset, .unset, .unset] [(.int (p2 &&& (2147483647 : Int32)))])) t
    refine XS.bipush X13.here hx rfl (hb hby at_70) ?_
    show Steps p.tables e below (T13.setTop (mkF m 72 #[.val (.long q0), .second, .val (.int p1), .val (.int p2), .val (.int p3), .val (.ref b2), .unset, .unset, .unset] [(.int (7 : Int32)), (.int (p2 &&& (2147483647 : Int32)))])) t
    refine iremM X13 hx rfl (hb hby at_72) rfl (by decide) ?_
    show Steps p.tables e below (T13.setTop (mkF m 73 #[.val (.long q0), .second, .val (.int p1), .val (.int p2), .val (.int p3), .val (.ref b2), .unset, .unset, .unset] [(.int ((p2 &&& (2147483647 : Int32)) % (7 : Int32)))])) t
    refine XS.istore X13.here hx rfl (hb hby at_73) rfl (l' := #[.val (.long q0), .second, .val (.int p1), .val (.int p2), .val (.int p3), .val (.ref b2), .val (.int ((p2 &&& (2147483647 : Int32)) % (7 : Int32))), .unset, .unset]) rfl ?_
    exact kt
  obtain ⟨v73, hv73, K15⟩ : ∃ v73 : Int32, v73 = ((p2 &&& (2147483647 : Int32)) % (7 : Int32)) ∧ ∀ t, Steps p.tables e below (T13.setTop (mkF m 75 #[.val (.long q0), .second, .val (.int p1), .val (.int p2), .val (.int p3), .val (.ref b2), .val (.int v73), .unset, .unset] [])) t → P0 t := ⟨_, rfl, K14⟩
  have K16 : ∀ t, Steps p.tables e below (T13.setTop (mkF m 91 #[.val (.long q0), .second, .val (.int p1), .val (.int p2), .val (.int p3), .val (.ref b2), .val (.int v73), .val (.int (v73 + ((p3 &&& (2147483647 : Int32)) % ((7 : Int32) - v73)))), .unset] [])) t → P0 t := by
    intro t kt
    refine K15 t ?_
    show Steps p.tables e below (T13.setTop (mkF m 75 #[.val (.long q0), .second, .val (.int p1), .val (.int p2), .val (.int p3), .val (.ref b2), .val (.int v73), .unset, .unset] [])) t
    refine XS.iload X13.here hx rfl (hb hby at_75) rfl ?_
    show Steps p.tables e below (T13.setTop (mkF m 77 #[.val (.long q0), .second, .val (.int p1), .val (.int p2), .val (.int p3), .val (.ref b2), .val (.int v73), .unset, .unset] [(.int v73)])) t
    refine XS.iload X13.here hx rfl (hb hby at_77) rfl ?_
    show Steps p.tables e below (T13.setTop (mkF m 79 #[.val (.long q0), .second, .val (.int p1), .val (.int p2), .val (.int p3), .val (.ref b2), .val (.int v73), .unset, .unset] [(.int p3), (.int v73)])) t
    refine X13.ldcInt hx hown (mvT hZ (hw _ (List.mem_of_getElem? (i := 5) rfl))) (g := (mkF m 79 #[.val (.long q0), .second, .val (.int p1), .val (.int p2), .val (.int p3), .val (.ref b2), .val (.int v73), .unset, .unset] [(.int p3), (.int v73)])) rfl (hb hby at_79) _ ?_
    show Steps p.tables e below (T13.setTop (mkF m 81 #[.val (.long q0), .second, .val (.int p1), .val (.int p2), .val (.int p3), .val (.ref b2), .val (.int v73), .unset, .unset] [(.int (2147483647 : Int32)), (.int p3), (.int v73)])) t
    refine XS.iand X13.here hx rfl (hb hby at_81) rfl ?_
    show Steps p.tables e below (T13.setTop (mkF m 82 #[.val (.long q0), .second, .val (.int p1), .val (.int p2), .val (.int p3), .val (.ref b2), .val (.int v73), .unset, .unset] [(.int (p3 &&& (2147483647 : Int32))), (.int v73)])) t
    refine XS.bipush X13.here hx rfl (hb hby at_82) ?_
    show Steps p.tables e below (T13.setTop (mkF m 84 #[.val (.long q0), .second, .val (.int p1), .val (.int p2), .val (.int p3), .val (.ref b2), .val (.int v73), .unset, .unset] [(.int (7 : Int32)), (.int (p3 &&& (2147483647 : Int32))), (.int v73)])) t
    refine XS.iload X13.here hx rfl (hb hby at_84) rfl ?_
    show Steps p.tables e below (T13.setTop (mkF m 86 #[.val (.long q0), .second, .val (.int p1), .val (.int p2), .val (.int p3), .val (.ref b2), .val (.int v73), .unset, .unset] [(.int v73), (.int (7 : Int32)), (.int (p3 &&& (2147483647 : Int32))), (.int v73)])) t
    refine XS.isub X13.here hx rfl (hb hby at_86) rfl ?_
    show Steps p.tables e below (T13.setTop (mkF m 87 #[.val (.long q0), .second, .val (.int p1), .val (.int p2), .val (.int p3), .val (.ref b2), .val (.int v73), .unset, .unset] [(.int ((7 : Int32) - v73)), (.int (p3 &&& (2147483647 : Int32))), (.int v73)])) t
    refine iremM X13 hx rfl (hb hby at_87) rfl (own_nz hv73) ?_
    show Steps p.tables e below (T13.setTop (mkF m 88 #[.val (.long q0), .second, .val (.int p1), .val (.int p2), .val (.int p3), .val (.ref b2), .val (.int v73), .unset, .unset] [(.int ((p3 &&& (2147483647 : Int32)) % ((7 : Int32) - v73))), (.int v73)])) t
    refine XS.iadd X13.here hx rfl (hb hby at_88) rfl ?_
    show Steps p.tables e below (T13.setTop (mkF m 89 #[.val (.long q0), .second, .val (.int p1), .val (.int p2), .val (.int p3), .val (.ref b2), .val (.int v73), .unset, .unset] [(.int (v73 + ((p3 &&& (2147483647 : Int32)) % ((7 : Int32) - v73))))])) t
    refine XS.istore X13.here hx rfl (hb hby at_89) rfl (l' := #[.val (.long q0), .second, .val (.int p1), .val (.int p2), .val (.int p3), .val (.ref b2), .val (.int v73), .val (.int (v73 + ((p3 &&& (2147483647 : Int32)) % ((7 : Int32) - v73)))), .unset]) rfl ?_
    exact kt
  obtain ⟨v89, hv89, K17⟩ : ∃ v89 : Int32, v89 = (v73 + ((p3 &&& (2147483647 : Int32)) % ((7 : Int32) - v73))) ∧ ∀ t, Steps p.tables e below (T13.setTop (mkF m 91 #[.val (.long q0), .second, .val (.int p1), .val (.int p2), .val (.int p3), .val (.ref b2), .val (.int v73), .val (.int v89), .unset] [])) t → P0 t := ⟨_, rfl, K16⟩
  obtain ⟨a, b, hna, hnb, hab, hb6⟩ := own_ab hv73 hv89
  obtain ⟨_, _, ⟨T18, L18, k18, n18⟩, -, X18, ⟨Lc18, hQ18, l18, y18, z18⟩, st18⟩ := Jvm.LawKit.callS X13 hx (y := (⟨"com/example/lowtide/lowtide/Columns", "end", "([BII)I"⟩ : MethodName)) hown (mvT hZ (hw _ (List.mem_of_getElem? (i := 6) rfl))) (mvT hZ (hw _ (List.mem_of_getElem? (i := 7) rfl))) (mvT hZ (hw _ (List.mem_of_getElem? (i := 8) rfl))) (mvT hZ (hw _ (List.mem_of_getElem? (i := 9) rfl))) (by decide) (backOf (W := 0) (rm_end l Z a0 hw [] b2 v73 v89 f65 a b h13 n0 Z13 V13' hna hnb hab hb6) hZ (hw _ (List.mem_of_getElem? (i := 9) rfl)) (hw _ (List.mem_of_getElem? (i := 8) rfl)) (by decide) (by decide)) (g := (mkF m 97 #[.val (.long q0), .second, .val (.int p1), .val (.int p2), .val (.int p3), .val (.ref b2), .val (.int v73), .val (.int v89), .unset] [(.int v89), (.int v73), (.ref b2)])) rfl (by rw [hml]; rfl) (argsL := [(.ref b2), (.int v73), (.int v89)]) (rest := []) (lenOf law_pd1 rfl) rfl (by show 2 * 0 + _ ≤ _; exact Nat.le_of_eq rfl) (hb hby at_97) (fun _ _ => ⟨rfl, e13, (by decide : 1 + 0 ≤ _), (by decide : 6 + 0 ≤ _)⟩)
  dsimp only [Pt.U, Pt.locs, Pt.cells, Pt.slots] at X18 l18 y18 z18 st18 hQ18
  subst l18 y18 z18
  obtain ⟨rfl, N18q, e18⟩ := hQ18
  have N18 := Fr.app N13 N18q
  have K19 : ∀ t, Steps p.tables e below (T18.setTop (mkF m 102 #[.val (.long q0), .second, .val (.int p1), .val (.int p2), .val (.int p3), .val (.ref b2), .val (.int v73), .val (.int v89), .val (.int (Int32.ofNat (scan f65 a (b - a))))] [])) t → P0 t := by
    intro t kt
    refine K17 t ?_
    show Steps p.tables e below (T13.setTop (mkF m 91 #[.val (.long q0), .second, .val (.int p1), .val (.int p2), .val (.int p3), .val (.ref b2), .val (.int v73), .val (.int v89), .unset] [])) t
    refine XS.aload X13.here hx rfl (hb hby at_91) rfl rfl ?_
    show Steps p.tables e below (T13.setTop (mkF m 93 #[.val (.long q0), .second, .val (.int p1), .val (.int p2), .val (.int p3), .val (.ref b2), .val (.int v73), .val (.int v89), .unset] [(.ref b2)])) t
    refine XS.iload X13.here hx rfl (hb hby at_93) rfl ?_
    show Steps p.tables e below (T13.setTop (mkF m 95 #[.val (.long q0), .second, .val (.int p1), .val (.int p2), .val (.int p3), .val (.ref b2), .val (.int v73), .val (.int v89), .unset] [(.int v73), (.ref b2)])) t
    refine XS.iload X13.here hx rfl (hb hby at_95) rfl ?_
    show Steps p.tables e below (T13.setTop (mkF m 97 #[.val (.long q0), .second, .val (.int p1), .val (.int p2), .val (.int p3), .val (.ref b2), .val (.int v73), .val (.int v89), .unset] [(.int v89), (.int v73), (.ref b2)])) t
    refine st18 _ ?_
    show Steps p.tables e below (T18.setTop (mkF m 100 #[.val (.long q0), .second, .val (.int p1), .val (.int p2), .val (.int p3), .val (.ref b2), .val (.int v73), .val (.int v89), .unset] [(.int (Int32.ofNat (scan f65 a (b - a))))])) t
    refine XS.istore X18.here hx rfl (hb hby at_100) rfl (l' := #[.val (.long q0), .second, .val (.int p1), .val (.int p2), .val (.int p3), .val (.ref b2), .val (.int v73), .val (.int v89), .val (.int (Int32.ofNat (scan f65 a (b - a))))]) rfl ?_
    exact kt
  obtain ⟨v100, hv100, K20⟩ : ∃ v100 : Int32, v100 = (Int32.ofNat (scan f65 a (b - a))) ∧ ∀ t, Steps p.tables e below (T18.setTop (mkF m 102 #[.val (.long q0), .second, .val (.int p1), .val (.int p2), .val (.int p3), .val (.ref b2), .val (.int v73), .val (.int v89), .val (.int v100)] [])) t → P0 t := ⟨_, rfl, K19⟩
  have K21 : ∀ t, Steps p.tables e below (T18.setTop (mkF m 106 #[.val (.long q0), .second, .val (.int p1), .val (.int p2), .val (.int p3), .val (.ref b2), .val (.int v73), .val (.int v89), .val (.int v100)] [(.int v73), (.int v100)])) t → P0 t := by
    intro t kt
    refine K20 t ?_
    show Steps p.tables e below (T18.setTop (mkF m 102 #[.val (.long q0), .second, .val (.int p1), .val (.int p2), .val (.int p3), .val (.ref b2), .val (.int v73), .val (.int v89), .val (.int v100)] [])) t
    refine XS.iload X18.here hx rfl (hb hby at_102) rfl ?_
    show Steps p.tables e below (T18.setTop (mkF m 104 #[.val (.long q0), .second, .val (.int p1), .val (.int p2), .val (.int p3), .val (.ref b2), .val (.int v73), .val (.int v89), .val (.int v100)] [(.int v100)])) t
    refine XS.iload X18.here hx rfl (hb hby at_104) rfl ?_
    exact kt
  obtain ⟨jx106, pcx106, Lx106, Sx106, T146, lc147, hjx106, X148, e149, N150, hdx106, K151⟩ : ∃ (jx106 : Int32) (pcx106 : Nat) (Lx106 : Array Slot) (Sx106 : List Value) (T146 : State) (lc147 : List Loc), jx106 = (if v100 < v73 then (0 : Int32) else (if v89 < v100 then (0 : Int32) else (if v100 < v89 then (if (f65 (v100).toNatClampNeg) = (9 : Int32) then (if (fClr (0 : Int32) v73 v100 f65) = (0 : Int32) then (0 : Int32) else (if (fClr (1 : Int32) v73 v100 f65) = (0 : Int32) then (0 : Int32) else (if (fClr (2 : Int32) v73 v100 f65) = (0 : Int32) then (0 : Int32) else (if (fClr (3 : Int32) v73 v100 f65) = (0 : Int32) then (0 : Int32) else (if (fClr (4 : Int32) v73 v100 f65) = (0 : Int32) then (0 : Int32) else (if (fClr (5 : Int32) v73 v100 f65) = (0 : Int32) then (0 : Int32) else (1 : Int32))))))) else (0 : Int32)) else (if (fClr (0 : Int32) v73 v100 f65) = (0 : Int32) then (0 : Int32) else (if (fClr (1 : Int32) v73 v100 f65) = (0 : Int32) then (0 : Int32) else (if (fClr (2 : Int32) v73 v100 f65) = (0 : Int32) then (0 : Int32) else (if (fClr (3 : Int32) v73 v100 f65) = (0 : Int32) then (0 : Int32) else (if (fClr (4 : Int32) v73 v100 f65) = (0 : Int32) then (0 : Int32) else (if (fClr (5 : Int32) v73 v100 f65) = (0 : Int32) then (0 : Int32) else (1 : Int32)))))))))) ∧ Stand p l e room_1 s m #[(.long q0), (.int p1), (.int p2), (.int p3)] below meth c T146 lc147 1 6 ∧ T146.heap = h13 ∧ Fr n0 lc147 ∧ decode c.code pcx106 = .ok (.ireturn, 1) ∧ ∀ t, Steps p.tables e below (T146.setTop (mkF m pcx106 Lx106 ((.int jx106) :: Sx106))) t → P0 t := by
    by_cases hc106 : v100 < v73
    · have K22 : ∀ t, Steps p.tables e below (T18.setTop (mkF m 117 #[.val (.long q0), .second, .val (.int p1), .val (.int p2), .val (.int p3), .val (.ref b2), .val (.int v73), .val (.int v89), .val (.int v100)] [(.int (0 : Int32))])) t → P0 t := by
        intro t kt
        refine K21 t ?_
        show Steps p.tables e below (T18.setTop (mkF m 106 #[.val (.long q0), .second, .val (.int p1), .val (.int p2), .val (.int p3), .val (.ref b2), .val (.int v73), .val (.int v89), .val (.int v100)] [(.int v73), (.int v100)])) t
        refine XS.icmpYes X18.here hx rfl (pc0 := 106) (pc' := 116) rfl (hb hby at_106) rfl (tlt hc106).1 (by decide) (by decide) ?_
        show Steps p.tables e below (T18.setTop (mkF m 116 #[.val (.long q0), .second, .val (.int p1), .val (.int p2), .val (.int p3), .val (.ref b2), .val (.int v73), .val (.int v89), .val (.int v100)] [])) t
        refine XS.iconst X18.here hx rfl (hb hby at_116) ?_
        exact kt
      exact ⟨_, _, _, _, _, _, (if_pos hc106).symm, X18, e18, N18, (hb hby at_117), K22⟩
    · have K23 : ∀ t, Steps p.tables e below (T18.setTop (mkF m 113 #[.val (.long q0), .second, .val (.int p1), .val (.int p2), .val (.int p3), .val (.ref b2), .val (.int v73), .val (.int v89), .val (.int v100)] [(.int v89), (.int v100)])) t → P0 t := by
        intro t kt
        refine K21 t ?_
        show Steps p.tables e below (T18.setTop (mkF m 106 #[.val (.long q0), .second, .val (.int p1), .val (.int p2), .val (.int p3), .val (.ref b2), .val (.int v73), .val (.int v89), .val (.int v100)] [(.int v73), (.int v100)])) t
        refine XS.icmpNo X18.here hx rfl (hb hby at_106) rfl (flt hc106).1 ?_
        show Steps p.tables e below (T18.setTop (mkF m 109 #[.val (.long q0), .second, .val (.int p1), .val (.int p2), .val (.int p3), .val (.ref b2), .val (.int v73), .val (.int v89), .val (.int v100)] [])) t
        refine XS.iload X18.here hx rfl (hb hby at_109) rfl ?_
        show Steps p.tables e below (T18.setTop (mkF m 111 #[.val (.long q0), .second, .val (.int p1), .val (.int p2), .val (.int p3), .val (.ref b2), .val (.int v73), .val (.int v89), .val (.int v100)] [(.int v100)])) t
        refine XS.iload X18.here hx rfl (hb hby at_111) rfl ?_
        exact kt
      obtain ⟨jx113, pcx113, Lx113, Sx113, T140, lc141, hjx113, X142, e143, N144, hdx113, K145⟩ : ∃ (jx113 : Int32) (pcx113 : Nat) (Lx113 : Array Slot) (Sx113 : List Value) (T140 : State) (lc141 : List Loc), jx113 = (if v89 < v100 then (0 : Int32) else (if v100 < v89 then (if (f65 (v100).toNatClampNeg) = (9 : Int32) then (if (fClr (0 : Int32) v73 v100 f65) = (0 : Int32) then (0 : Int32) else (if (fClr (1 : Int32) v73 v100 f65) = (0 : Int32) then (0 : Int32) else (if (fClr (2 : Int32) v73 v100 f65) = (0 : Int32) then (0 : Int32) else (if (fClr (3 : Int32) v73 v100 f65) = (0 : Int32) then (0 : Int32) else (if (fClr (4 : Int32) v73 v100 f65) = (0 : Int32) then (0 : Int32) else (if (fClr (5 : Int32) v73 v100 f65) = (0 : Int32) then (0 : Int32) else (1 : Int32))))))) else (0 : Int32)) else (if (fClr (0 : Int32) v73 v100 f65) = (0 : Int32) then (0 : Int32) else (if (fClr (1 : Int32) v73 v100 f65) = (0 : Int32) then (0 : Int32) else (if (fClr (2 : Int32) v73 v100 f65) = (0 : Int32) then (0 : Int32) else (if (fClr (3 : Int32) v73 v100 f65) = (0 : Int32) then (0 : Int32) else (if (fClr (4 : Int32) v73 v100 f65) = (0 : Int32) then (0 : Int32) else (if (fClr (5 : Int32) v73 v100 f65) = (0 : Int32) then (0 : Int32) else (1 : Int32))))))))) ∧ Stand p l e room_1 s m #[(.long q0), (.int p1), (.int p2), (.int p3)] below meth c T140 lc141 1 6 ∧ T140.heap = h13 ∧ Fr n0 lc141 ∧ decode c.code pcx113 = .ok (.ireturn, 1) ∧ ∀ t, Steps p.tables e below (T140.setTop (mkF m pcx113 Lx113 ((.int jx113) :: Sx113))) t → P0 t := by
        by_cases hc113 : v89 < v100
        · have K24 : ∀ t, Steps p.tables e below (T18.setTop (mkF m 117 #[.val (.long q0), .second, .val (.int p1), .val (.int p2), .val (.int p3), .val (.ref b2), .val (.int v73), .val (.int v89), .val (.int v100)] [(.int (0 : Int32))])) t → P0 t := by
            intro t kt
            refine K23 t ?_
            show Steps p.tables e below (T18.setTop (mkF m 113 #[.val (.long q0), .second, .val (.int p1), .val (.int p2), .val (.int p3), .val (.ref b2), .val (.int v73), .val (.int v89), .val (.int v100)] [(.int v89), (.int v100)])) t
            refine XS.icmpNo X18.here hx rfl (hb hby at_113) rfl (tlt hc113).2.2.2 ?_
            show Steps p.tables e below (T18.setTop (mkF m 116 #[.val (.long q0), .second, .val (.int p1), .val (.int p2), .val (.int p3), .val (.ref b2), .val (.int v73), .val (.int v89), .val (.int v100)] [])) t
            refine XS.iconst X18.here hx rfl (hb hby at_116) ?_
            exact kt
          exact ⟨_, _, _, _, _, _, (if_pos hc113).symm, X18, e18, N18, (hb hby at_117), K24⟩
        · have K25 : ∀ t, Steps p.tables e below (T18.setTop (mkF m 122 #[.val (.long q0), .second, .val (.int p1), .val (.int p2), .val (.int p3), .val (.ref b2), .val (.int v73), .val (.int v89), .val (.int v100)] [(.int v89), (.int v100)])) t → P0 t := by
            intro t kt
            refine K23 t ?_
            show Steps p.tables e below (T18.setTop (mkF m 113 #[.val (.long q0), .second, .val (.int p1), .val (.int p2), .val (.int p3), .val (.ref b2), .val (.int v73), .val (.int v89), .val (.int v100)] [(.int v89), (.int v100)])) t
            refine XS.icmpYes X18.here hx rfl (pc0 := 113) (pc' := 118) rfl (hb hby at_113) rfl (flt hc113).2.2.2 (by decide) (by decide) ?_
            show Steps p.tables e below (T18.setTop (mkF m 118 #[.val (.long q0), .second, .val (.int p1), .val (.int p2), .val (.int p3), .val (.ref b2), .val (.int v73), .val (.int v89), .val (.int v100)] [])) t
            refine XS.iload X18.here hx rfl (hb hby at_118) rfl ?_
            show Steps p.tables e below (T18.setTop (mkF m 120 #[.val (.long q0), .second, .val (.int p1), .val (.int p2), .val (.int p3), .val (.ref b2), .val (.int v73), .val (.int v89), .val (.int v100)] [(.int v100)])) t
            refine XS.iload X18.here hx rfl (hb hby at_120) rfl ?_
            exact kt
          obtain ⟨jx122, pcx122, Lx122, Sx122, T134, lc135, hjx122, X136, e137, N138, hdx122, K139⟩ : ∃ (jx122 : Int32) (pcx122 : Nat) (Lx122 : Array Slot) (Sx122 : List Value) (T134 : State) (lc135 : List Loc), jx122 = (if v100 < v89 then (if (f65 (v100).toNatClampNeg) = (9 : Int32) then (if (fClr (0 : Int32) v73 v100 f65) = (0 : Int32) then (0 : Int32) else (if (fClr (1 : Int32) v73 v100 f65) = (0 : Int32) then (0 : Int32) else (if (fClr (2 : Int32) v73 v100 f65) = (0 : Int32) then (0 : Int32) else (if (fClr (3 : Int32) v73 v100 f65) = (0 : Int32) then (0 : Int32) else (if (fClr (4 : Int32) v73 v100 f65) = (0 : Int32) then (0 : Int32) else (if (fClr (5 : Int32) v73 v100 f65) = (0 : Int32) then (0 : Int32) else (1 : Int32))))))) else (0 : Int32)) else (if (fClr (0 : Int32) v73 v100 f65) = (0 : Int32) then (0 : Int32) else (if (fClr (1 : Int32) v73 v100 f65) = (0 : Int32) then (0 : Int32) else (if (fClr (2 : Int32) v73 v100 f65) = (0 : Int32) then (0 : Int32) else (if (fClr (3 : Int32) v73 v100 f65) = (0 : Int32) then (0 : Int32) else (if (fClr (4 : Int32) v73 v100 f65) = (0 : Int32) then (0 : Int32) else (if (fClr (5 : Int32) v73 v100 f65) = (0 : Int32) then (0 : Int32) else (1 : Int32)))))))) ∧ Stand p l e room_1 s m #[(.long q0), (.int p1), (.int p2), (.int p3)] below meth c T134 lc135 1 6 ∧ T134.heap = h13 ∧ Fr n0 lc135 ∧ decode c.code pcx122 = .ok (.ireturn, 1) ∧ ∀ t, Steps p.tables e below (T134.setTop (mkF m pcx122 Lx122 ((.int jx122) :: Sx122))) t → P0 t := by
            by_cases hc122 : v100 < v89
            · have K26 : ∀ t, Steps p.tables e below (T18.setTop (mkF m 132 #[.val (.long q0), .second, .val (.int p1), .val (.int p2), .val (.int p3), .val (.ref b2), .val (.int v73), .val (.int v89), .val (.int v100)] [(.int (9 : Int32)), (.int (f65 (v100).toNatClampNeg))])) t → P0 t := by
                intro t kt
                refine K25 t ?_
                show Steps p.tables e below (T18.setTop (mkF m 122 #[.val (.long q0), .second, .val (.int p1), .val (.int p2), .val (.int p3), .val (.ref b2), .val (.int v73), .val (.int v89), .val (.int v100)] [(.int v89), (.int v100)])) t
                refine XS.icmpNo X18.here hx rfl (hb hby at_122) rfl (tlt hc122).2.1 ?_
                show Steps p.tables e below (T18.setTop (mkF m 125 #[.val (.long q0), .second, .val (.int p1), .val (.int p2), .val (.int p3), .val (.ref b2), .val (.int v73), .val (.int v89), .val (.int v100)] [])) t
                refine XS.aload X18.here hx rfl (hb hby at_125) rfl rfl ?_
                show Steps p.tables e below (T18.setTop (mkF m 127 #[.val (.long q0), .second, .val (.int p1), .val (.int p2), .val (.int p3), .val (.ref b2), .val (.int v73), .val (.int v89), .val (.int v100)] [(.ref b2)])) t
                refine XS.iload X18.here hx rfl (hb hby at_127) rfl ?_
                show Steps p.tables e below (T18.setTop (mkF m 129 #[.val (.long q0), .second, .val (.int p1), .val (.int p2), .val (.int p3), .val (.ref b2), .val (.int v73), .val (.int v89), .val (.int v100)] [(.int v100), (.ref b2)])) t
                refine ldBA X18 hx hZ e18 V13' (j := v100) (own_in129 hv100 hnb hab hb6 hc122) (g := (mkF m 129 #[.val (.long q0), .second, .val (.int p1), .val (.int p2), .val (.int p3), .val (.ref b2), .val (.int v73), .val (.int v89), .val (.int v100)] [(.int v100), (.ref b2)])) rfl rfl (hb hby at_129) _ ?_
                show Steps p.tables e below (T18.setTop (mkF m 130 #[.val (.long q0), .second, .val (.int p1), .val (.int p2), .val (.int p3), .val (.ref b2), .val (.int v73), .val (.int v89), .val (.int v100)] [(.int (f65 (v100).toNatClampNeg))])) t
                refine XS.bipush X18.here hx rfl (hb hby at_130) ?_
                exact kt
              obtain ⟨jx132, pcx132, Lx132, Sx132, T78, lc79, hjx132, X80, e81, N82, hdx132, K83⟩ : ∃ (jx132 : Int32) (pcx132 : Nat) (Lx132 : Array Slot) (Sx132 : List Value) (T78 : State) (lc79 : List Loc), jx132 = (if (f65 (v100).toNatClampNeg) = (9 : Int32) then (if (fClr (0 : Int32) v73 v100 f65) = (0 : Int32) then (0 : Int32) else (if (fClr (1 : Int32) v73 v100 f65) = (0 : Int32) then (0 : Int32) else (if (fClr (2 : Int32) v73 v100 f65) = (0 : Int32) then (0 : Int32) else (if (fClr (3 : Int32) v73 v100 f65) = (0 : Int32) then (0 : Int32) else (if (fClr (4 : Int32) v73 v100 f65) = (0 : Int32) then (0 : Int32) else (if (fClr (5 : Int32) v73 v100 f65) = (0 : Int32) then (0 : Int32) else (1 : Int32))))))) else (0 : Int32)) ∧ Stand p l e room_1 s m #[(.long q0), (.int p1), (.int p2), (.int p3)] below meth c T78 lc79 1 6 ∧ T78.heap = h13 ∧ Fr n0 lc79 ∧ decode c.code pcx132 = .ok (.ireturn, 1) ∧ ∀ t, Steps p.tables e below (T78.setTop (mkF m pcx132 Lx132 ((.int jx132) :: Sx132))) t → P0 t := by
                by_cases hc132 : (f65 (v100).toNatClampNeg) = (9 : Int32)
                · obtain ⟨_, _, ⟨T27, L27, k27, n27⟩, -, X27, ⟨Lc27, hQ27, l27, y27, z27⟩, st27⟩ := Jvm.LawKit.callS X18 hx (y := (⟨"com/example/lowtide/lowtide/ColumnsEndPinLaw", "clear", "([BIII)Z"⟩ : MethodName)) hown (mvT hZ (hw _ (List.mem_of_getElem? (i := 10) rfl))) (mvT hZ (hw _ (List.mem_of_getElem? (i := 11) rfl))) (mvT hZ (hw _ (List.mem_of_getElem? (i := 3) rfl))) (mvT hZ (hw _ (List.mem_of_getElem? (i := 12) rfl))) (by decide) (backOf (W := 0) (rm_clr l Z a0 hw [] b2 (0 : Int32) v73 v100 f65 h13 n0 Z13 V13' (by decide)) hZ (hw _ (List.mem_of_getElem? (i := 12) rfl)) (hw _ (List.mem_of_getElem? (i := 3) rfl)) (by decide) (by decide)) (g := (mkF m 144 #[.val (.long q0), .second, .val (.int p1), .val (.int p2), .val (.int p3), .val (.ref b2), .val (.int v73), .val (.int v89), .val (.int v100)] [(.int v100), (.int v73), (.int (0 : Int32)), (.ref b2)])) rfl (by rw [hml]; rfl) (argsL := [(.ref b2), (.int (0 : Int32)), (.int v73), (.int v100)]) (rest := []) (lenOf law_pd2 rfl) rfl (by show 2 * 0 + _ ≤ _; exact Nat.le_of_eq rfl) (hb hby at_144) (fun _ _ => ⟨rfl, e18, (by decide : 1 + 0 ≤ _), (by decide : 6 + 0 ≤ _)⟩)
                  dsimp only [Pt.U, Pt.locs, Pt.cells, Pt.slots] at X27 l27 y27 z27 st27 hQ27
                  subst l27 y27 z27
                  obtain ⟨rfl, N27q, e27⟩ := hQ27
                  have N27 := Fr.app N18 N27q
                  have K28 : ∀ t, Steps p.tables e below (T27.setTop (mkF m 147 #[.val (.long q0), .second, .val (.int p1), .val (.int p2), .val (.int p3), .val (.ref b2), .val (.int v73), .val (.int v89), .val (.int v100)] [(.int (fClr (0 : Int32) v73 v100 f65))])) t → P0 t := by
                    intro t kt
                    refine K26 t ?_
                    show Steps p.tables e below (T18.setTop (mkF m 132 #[.val (.long q0), .second, .val (.int p1), .val (.int p2), .val (.int p3), .val (.ref b2), .val (.int v73), .val (.int v89), .val (.int v100)] [(.int (9 : Int32)), (.int (f65 (v100).toNatClampNeg))])) t
                    refine XS.icmpYes X18.here hx rfl (pc0 := 132) (pc' := 137) rfl (hb hby at_132) rfl (teq hc132).1 (by decide) (by decide) ?_
                    show Steps p.tables e below (T18.setTop (mkF m 137 #[.val (.long q0), .second, .val (.int p1), .val (.int p2), .val (.int p3), .val (.ref b2), .val (.int v73), .val (.int v89), .val (.int v100)] [])) t
                    refine XS.aload X18.here hx rfl (hb hby at_137) rfl rfl ?_
                    show Steps p.tables e below (T18.setTop (mkF m 139 #[.val (.long q0), .second, .val (.int p1), .val (.int p2), .val (.int p3), .val (.ref b2), .val (.int v73), .val (.int v89), .val (.int v100)] [(.ref b2)])) t
                    refine XS.iconst X18.here hx rfl (hb hby at_139) ?_
                    show Steps p.tables e below (T18.setTop (mkF m 140 #[.val (.long q0), .second, .val (.int p1), .val (.int p2), .val (.int p3), .val (.ref b2), .val (.int v73), .val (.int v89), .val (.int v100)] [(.int (0 : Int32)), (.ref b2)])) t
                    refine XS.iload X18.here hx rfl (hb hby at_140) rfl ?_
                    show Steps p.tables e below (T18.setTop (mkF m 142 #[.val (.long q0), .second, .val (.int p1), .val (.int p2), .val (.int p3), .val (.ref b2), .val (.int v73), .val (.int v89), .val (.int v100)] [(.int v73), (.int (0 : Int32)), (.ref b2)])) t
                    refine XS.iload X18.here hx rfl (hb hby at_142) rfl ?_
                    show Steps p.tables e below (T18.setTop (mkF m 144 #[.val (.long q0), .second, .val (.int p1), .val (.int p2), .val (.int p3), .val (.ref b2), .val (.int v73), .val (.int v89), .val (.int v100)] [(.int v100), (.int v73), (.int (0 : Int32)), (.ref b2)])) t
                    refine st27 _ ?_
                    exact kt
                  obtain ⟨j220_s0_5, T71, lc72, hj220_s0_5, X73, e74, N75, K76⟩ : ∃ (j220_s0_5 : Int32) (T71 : State) (lc72 : List Loc), j220_s0_5 = (if (fClr (0 : Int32) v73 v100 f65) = (0 : Int32) then (0 : Int32) else (if (fClr (1 : Int32) v73 v100 f65) = (0 : Int32) then (0 : Int32) else (if (fClr (2 : Int32) v73 v100 f65) = (0 : Int32) then (0 : Int32) else (if (fClr (3 : Int32) v73 v100 f65) = (0 : Int32) then (0 : Int32) else (if (fClr (4 : Int32) v73 v100 f65) = (0 : Int32) then (0 : Int32) else (if (fClr (5 : Int32) v73 v100 f65) = (0 : Int32) then (0 : Int32) else (1 : Int32))))))) ∧ Stand p l e room_1 s m #[(.long q0), (.int p1), (.int p2), (.int p3)] below meth c T71 lc72 1 6 ∧ T71.heap = h13 ∧ Fr n0 lc72 ∧ ∀ t, Steps p.tables e below (T71.setTop (mkF m 220 #[.val (.long q0), .second, .val (.int p1), .val (.int p2), .val (.int p3), .val (.ref b2), .val (.int v73), .val (.int v89), .val (.int v100)] [(.int j220_s0_5)])) t → P0 t := by
                    by_cases hc147 : (fClr (0 : Int32) v73 v100 f65) = (0 : Int32)
                    · have K29 : ∀ t, Steps p.tables e below (T27.setTop (mkF m 220 #[.val (.long q0), .second, .val (.int p1), .val (.int p2), .val (.int p3), .val (.ref b2), .val (.int v73), .val (.int v89), .val (.int v100)] [(.int (0 : Int32))])) t → P0 t := by
                        intro t kt
                        refine K28 t ?_
                        show Steps p.tables e below (T27.setTop (mkF m 147 #[.val (.long q0), .second, .val (.int p1), .val (.int p2), .val (.int p3), .val (.ref b2), .val (.int v73), .val (.int v89), .val (.int v100)] [(.int (fClr (0 : Int32) v73 v100 f65))])) t
                        refine XS.ifYes X27.here hx rfl (pc0 := 147) (pc' := 219) rfl (hb hby at_147) rfl ((if0 _ _).trans (teq hc147).1) (by decide) (by decide) ?_
                        show Steps p.tables e below (T27.setTop (mkF m 219 #[.val (.long q0), .second, .val (.int p1), .val (.int p2), .val (.int p3), .val (.ref b2), .val (.int v73), .val (.int v89), .val (.int v100)] [])) t
                        refine XS.iconst X27.here hx rfl (hb hby at_219) ?_
                        exact kt
                      exact ⟨_, _, _, (if_pos hc147).symm, X27, e27, N27, K29⟩
                    · obtain ⟨_, _, ⟨T30, L30, k30, n30⟩, -, X30, ⟨Lc30, hQ30, l30, y30, z30⟩, st30⟩ := Jvm.LawKit.callS X27 hx (y := (⟨"com/example/lowtide/lowtide/ColumnsEndPinLaw", "clear", "([BIII)Z"⟩ : MethodName)) hown (mvT hZ (hw _ (List.mem_of_getElem? (i := 10) rfl))) (mvT hZ (hw _ (List.mem_of_getElem? (i := 11) rfl))) (mvT hZ (hw _ (List.mem_of_getElem? (i := 3) rfl))) (mvT hZ (hw _ (List.mem_of_getElem? (i := 12) rfl))) (by decide) (backOf (W := 0) (rm_clr l Z a0 hw [] b2 (1 : Int32) v73 v100 f65 h13 n0 Z13 V13' (by decide)) hZ (hw _ (List.mem_of_getElem? (i := 12) rfl)) (hw _ (List.mem_of_getElem? (i := 3) rfl)) (by decide) (by decide)) (g := (mkF m 157 #[.val (.long q0), .second, .val (.int p1), .val (.int p2), .val (.int p3), .val (.ref b2), .val (.int v73), .val (.int v89), .val (.int v100)] [(.int v100), (.int v73), (.int (1 : Int32)), (.ref b2)])) rfl (by rw [hml]; rfl) (argsL := [(.ref b2), (.int (1 : Int32)), (.int v73), (.int v100)]) (rest := []) (lenOf law_pd2 rfl) rfl (by show 2 * 0 + _ ≤ _; exact Nat.le_of_eq rfl) (hb hby at_157) (fun _ _ => ⟨rfl, e27, (by decide : 1 + 0 ≤ _), (by decide : 6 + 0 ≤ _)⟩)
                      dsimp only [Pt.U, Pt.locs, Pt.cells, Pt.slots] at X30 l30 y30 z30 st30 hQ30
                      subst l30 y30 z30
                      obtain ⟨rfl, N30q, e30⟩ := hQ30
                      have N30 := Fr.app N27 N30q
                      have K31 : ∀ t, Steps p.tables e below (T30.setTop (mkF m 160 #[.val (.long q0), .second, .val (.int p1), .val (.int p2), .val (.int p3), .val (.ref b2), .val (.int v73), .val (.int v89), .val (.int v100)] [(.int (fClr (1 : Int32) v73 v100 f65))])) t → P0 t := by
                        intro t kt
                        refine K28 t ?_
                        show Steps p.tables e below (T27.setTop (mkF m 147 #[.val (.long q0), .second, .val (.int p1), .val (.int p2), .val (.int p3), .val (.ref b2), .val (.int v73), .val (.int v89), .val (.int v100)] [(.int (fClr (0 : Int32) v73 v100 f65))])) t
                        refine XS.ifNo X27.here hx rfl (hb hby at_147) rfl ((if0 _ _).trans (feq hc147).1) ?_
                        show Steps p.tables e below (T27.setTop (mkF m 150 #[.val (.long q0), .second, .val (.int p1), .val (.int p2), .val (.int p3), .val (.ref b2), .val (.int v73), .val (.int v89), .val (.int v100)] [])) t
                        refine XS.aload X27.here hx rfl (hb hby at_150) rfl rfl ?_
                        show Steps p.tables e below (T27.setTop (mkF m 152 #[.val (.long q0), .second, .val (.int p1), .val (.int p2), .val (.int p3), .val (.ref b2), .val (.int v73), .val (.int v89), .val (.int v100)] [(.ref b2)])) t
                        refine XS.iconst X27.here hx rfl (hb hby at_152) ?_
                        show Steps p.tables e below (T27.setTop (mkF m 153 #[.val (.long q0), .second, .val (.int p1), .val (.int p2), .val (.int p3), .val (.ref b2), .val (.int v73), .val (.int v89), .val (.int v100)] [(.int (1 : Int32)), (.ref b2)])) t
                        refine XS.iload X27.here hx rfl (hb hby at_153) rfl ?_
                        show Steps p.tables e below (T27.setTop (mkF m 155 #[.val (.long q0), .second, .val (.int p1), .val (.int p2), .val (.int p3), .val (.ref b2), .val (.int v73), .val (.int v89), .val (.int v100)] [(.int v73), (.int (1 : Int32)), (.ref b2)])) t
                        refine XS.iload X27.here hx rfl (hb hby at_155) rfl ?_
                        show Steps p.tables e below (T27.setTop (mkF m 157 #[.val (.long q0), .second, .val (.int p1), .val (.int p2), .val (.int p3), .val (.ref b2), .val (.int v73), .val (.int v89), .val (.int v100)] [(.int v100), (.int v73), (.int (1 : Int32)), (.ref b2)])) t
                        refine st30 _ ?_
                        exact kt
                      obtain ⟨j220_s0_4, T65, lc66, hj220_s0_4, X67, e68, N69, K70⟩ : ∃ (j220_s0_4 : Int32) (T65 : State) (lc66 : List Loc), j220_s0_4 = (if (fClr (1 : Int32) v73 v100 f65) = (0 : Int32) then (0 : Int32) else (if (fClr (2 : Int32) v73 v100 f65) = (0 : Int32) then (0 : Int32) else (if (fClr (3 : Int32) v73 v100 f65) = (0 : Int32) then (0 : Int32) else (if (fClr (4 : Int32) v73 v100 f65) = (0 : Int32) then (0 : Int32) else (if (fClr (5 : Int32) v73 v100 f65) = (0 : Int32) then (0 : Int32) else (1 : Int32)))))) ∧ Stand p l e room_1 s m #[(.long q0), (.int p1), (.int p2), (.int p3)] below meth c T65 lc66 1 6 ∧ T65.heap = h13 ∧ Fr n0 lc66 ∧ ∀ t, Steps p.tables e below (T65.setTop (mkF m 220 #[.val (.long q0), .second, .val (.int p1), .val (.int p2), .val (.int p3), .val (.ref b2), .val (.int v73), .val (.int v89), .val (.int v100)] [(.int j220_s0_4)])) t → P0 t := by
                        by_cases hc160 : (fClr (1 : Int32) v73 v100 f65) = (0 : Int32)
                        · have K32 : ∀ t, Steps p.tables e below (T30.setTop (mkF m 220 #[.val (.long q0), .second, .val (.int p1), .val (.int p2), .val (.int p3), .val (.ref b2), .val (.int v73), .val (.int v89), .val (.int v100)] [(.int (0 : Int32))])) t → P0 t := by
                            intro t kt
                            refine K31 t ?_
                            show Steps p.tables e below (T30.setTop (mkF m 160 #[.val (.long q0), .second, .val (.int p1), .val (.int p2), .val (.int p3), .val (.ref b2), .val (.int v73), .val (.int v89), .val (.int v100)] [(.int (fClr (1 : Int32) v73 v100 f65))])) t
                            refine XS.ifYes X30.here hx rfl (pc0 := 160) (pc' := 219) rfl (hb hby at_160) rfl ((if0 _ _).trans (teq hc160).1) (by decide) (by decide) ?_
                            show Steps p.tables e below (T30.setTop (mkF m 219 #[.val (.long q0), .second, .val (.int p1), .val (.int p2), .val (.int p3), .val (.ref b2), .val (.int v73), .val (.int v89), .val (.int v100)] [])) t
                            refine XS.iconst X30.here hx rfl (hb hby at_219) ?_
                            exact kt
                          exact ⟨_, _, _, (if_pos hc160).symm, X30, e30, N30, K32⟩
                        · obtain ⟨_, _, ⟨T33, L33, k33, n33⟩, -, X33, ⟨Lc33, hQ33, l33, y33, z33⟩, st33⟩ := Jvm.LawKit.callS X30 hx (y := (⟨"com/example/lowtide/lowtide/ColumnsEndPinLaw", "clear", "([BIII)Z"⟩ : MethodName)) hown (mvT hZ (hw _ (List.mem_of_getElem? (i := 10) rfl))) (mvT hZ (hw _ (List.mem_of_getElem? (i := 11) rfl))) (mvT hZ (hw _ (List.mem_of_getElem? (i := 3) rfl))) (mvT hZ (hw _ (List.mem_of_getElem? (i := 12) rfl))) (by decide) (backOf (W := 0) (rm_clr l Z a0 hw [] b2 (2 : Int32) v73 v100 f65 h13 n0 Z13 V13' (by decide)) hZ (hw _ (List.mem_of_getElem? (i := 12) rfl)) (hw _ (List.mem_of_getElem? (i := 3) rfl)) (by decide) (by decide)) (g := (mkF m 170 #[.val (.long q0), .second, .val (.int p1), .val (.int p2), .val (.int p3), .val (.ref b2), .val (.int v73), .val (.int v89), .val (.int v100)] [(.int v100), (.int v73), (.int (2 : Int32)), (.ref b2)])) rfl (by rw [hml]; rfl) (argsL := [(.ref b2), (.int (2 : Int32)), (.int v73), (.int v100)]) (rest := []) (lenOf law_pd2 rfl) rfl (by show 2 * 0 + _ ≤ _; exact Nat.le_of_eq rfl) (hb hby at_170) (fun _ _ => ⟨rfl, e30, (by decide : 1 + 0 ≤ _), (by decide : 6 + 0 ≤ _)⟩)
                          dsimp only [Pt.U, Pt.locs, Pt.cells, Pt.slots] at X33 l33 y33 z33 st33 hQ33
                          subst l33 y33 z33
                          obtain ⟨rfl, N33q, e33⟩ := hQ33
                          have N33 := Fr.app N30 N33q
                          have K34 : ∀ t, Steps p.tables e below (T33.setTop (mkF m 173 #[.val (.long q0), .second, .val (.int p1), .val (.int p2), .val (.int p3), .val (.ref b2), .val (.int v73), .val (.int v89), .val (.int v100)] [(.int (fClr (2 : Int32) v73 v100 f65))])) t → P0 t := by
                            intro t kt
                            refine K31 t ?_
                            show Steps p.tables e below (T30.setTop (mkF m 160 #[.val (.long q0), .second, .val (.int p1), .val (.int p2), .val (.int p3), .val (.ref b2), .val (.int v73), .val (.int v89), .val (.int v100)] [(.int (fClr (1 : Int32) v73 v100 f65))])) t
                            refine XS.ifNo X30.here hx rfl (hb hby at_160) rfl ((if0 _ _).trans (feq hc160).1) ?_
                            show Steps p.tables e below (T30.setTop (mkF m 163 #[.val (.long q0), .second, .val (.int p1), .val (.int p2), .val (.int p3), .val (.ref b2), .val (.int v73), .val (.int v89), .val (.int v100)] [])) t
                            refine XS.aload X30.here hx rfl (hb hby at_163) rfl rfl ?_
                            show Steps p.tables e below (T30.setTop (mkF m 165 #[.val (.long q0), .second, .val (.int p1), .val (.int p2), .val (.int p3), .val (.ref b2), .val (.int v73), .val (.int v89), .val (.int v100)] [(.ref b2)])) t
                            refine XS.iconst X30.here hx rfl (hb hby at_165) ?_
                            show Steps p.tables e below (T30.setTop (mkF m 166 #[.val (.long q0), .second, .val (.int p1), .val (.int p2), .val (.int p3), .val (.ref b2), .val (.int v73), .val (.int v89), .val (.int v100)] [(.int (2 : Int32)), (.ref b2)])) t
                            refine XS.iload X30.here hx rfl (hb hby at_166) rfl ?_
                            show Steps p.tables e below (T30.setTop (mkF m 168 #[.val (.long q0), .second, .val (.int p1), .val (.int p2), .val (.int p3), .val (.ref b2), .val (.int v73), .val (.int v89), .val (.int v100)] [(.int v73), (.int (2 : Int32)), (.ref b2)])) t
                            refine XS.iload X30.here hx rfl (hb hby at_168) rfl ?_
                            show Steps p.tables e below (T30.setTop (mkF m 170 #[.val (.long q0), .second, .val (.int p1), .val (.int p2), .val (.int p3), .val (.ref b2), .val (.int v73), .val (.int v89), .val (.int v100)] [(.int v100), (.int v73), (.int (2 : Int32)), (.ref b2)])) t
                            refine st33 _ ?_
                            exact kt
                          obtain ⟨j220_s0_3, T59, lc60, hj220_s0_3, X61, e62, N63, K64⟩ : ∃ (j220_s0_3 : Int32) (T59 : State) (lc60 : List Loc), j220_s0_3 = (if (fClr (2 : Int32) v73 v100 f65) = (0 : Int32) then (0 : Int32) else (if (fClr (3 : Int32) v73 v100 f65) = (0 : Int32) then (0 : Int32) else (if (fClr (4 : Int32) v73 v100 f65) = (0 : Int32) then (0 : Int32) else (if (fClr (5 : Int32) v73 v100 f65) = (0 : Int32) then (0 : Int32) else (1 : Int32))))) ∧ Stand p l e room_1 s m #[(.long q0), (.int p1), (.int p2), (.int p3)] below meth c T59 lc60 1 6 ∧ T59.heap = h13 ∧ Fr n0 lc60 ∧ ∀ t, Steps p.tables e below (T59.setTop (mkF m 220 #[.val (.long q0), .second, .val (.int p1), .val (.int p2), .val (.int p3), .val (.ref b2), .val (.int v73), .val (.int v89), .val (.int v100)] [(.int j220_s0_3)])) t → P0 t := by
                            by_cases hc173 : (fClr (2 : Int32) v73 v100 f65) = (0 : Int32)
                            · have K35 : ∀ t, Steps p.tables e below (T33.setTop (mkF m 220 #[.val (.long q0), .second, .val (.int p1), .val (.int p2), .val (.int p3), .val (.ref b2), .val (.int v73), .val (.int v89), .val (.int v100)] [(.int (0 : Int32))])) t → P0 t := by
                                intro t kt
                                refine K34 t ?_
                                show Steps p.tables e below (T33.setTop (mkF m 173 #[.val (.long q0), .second, .val (.int p1), .val (.int p2), .val (.int p3), .val (.ref b2), .val (.int v73), .val (.int v89), .val (.int v100)] [(.int (fClr (2 : Int32) v73 v100 f65))])) t
                                refine XS.ifYes X33.here hx rfl (pc0 := 173) (pc' := 219) rfl (hb hby at_173) rfl ((if0 _ _).trans (teq hc173).1) (by decide) (by decide) ?_
                                show Steps p.tables e below (T33.setTop (mkF m 219 #[.val (.long q0), .second, .val (.int p1), .val (.int p2), .val (.int p3), .val (.ref b2), .val (.int v73), .val (.int v89), .val (.int v100)] [])) t
                                refine XS.iconst X33.here hx rfl (hb hby at_219) ?_
                                exact kt
                              exact ⟨_, _, _, (if_pos hc173).symm, X33, e33, N33, K35⟩
                            · obtain ⟨_, _, ⟨T36, L36, k36, n36⟩, -, X36, ⟨Lc36, hQ36, l36, y36, z36⟩, st36⟩ := Jvm.LawKit.callS X33 hx (y := (⟨"com/example/lowtide/lowtide/ColumnsEndPinLaw", "clear", "([BIII)Z"⟩ : MethodName)) hown (mvT hZ (hw _ (List.mem_of_getElem? (i := 10) rfl))) (mvT hZ (hw _ (List.mem_of_getElem? (i := 11) rfl))) (mvT hZ (hw _ (List.mem_of_getElem? (i := 3) rfl))) (mvT hZ (hw _ (List.mem_of_getElem? (i := 12) rfl))) (by decide) (backOf (W := 0) (rm_clr l Z a0 hw [] b2 (3 : Int32) v73 v100 f65 h13 n0 Z13 V13' (by decide)) hZ (hw _ (List.mem_of_getElem? (i := 12) rfl)) (hw _ (List.mem_of_getElem? (i := 3) rfl)) (by decide) (by decide)) (g := (mkF m 183 #[.val (.long q0), .second, .val (.int p1), .val (.int p2), .val (.int p3), .val (.ref b2), .val (.int v73), .val (.int v89), .val (.int v100)] [(.int v100), (.int v73), (.int (3 : Int32)), (.ref b2)])) rfl (by rw [hml]; rfl) (argsL := [(.ref b2), (.int (3 : Int32)), (.int v73), (.int v100)]) (rest := []) (lenOf law_pd2 rfl) rfl (by show 2 * 0 + _ ≤ _; exact Nat.le_of_eq rfl) (hb hby at_183) (fun _ _ => ⟨rfl, e33, (by decide : 1 + 0 ≤ _), (by decide : 6 + 0 ≤ _)⟩)
                              dsimp only [Pt.U, Pt.locs, Pt.cells, Pt.slots] at X36 l36 y36 z36 st36 hQ36
                              subst l36 y36 z36
                              obtain ⟨rfl, N36q, e36⟩ := hQ36
                              have N36 := Fr.app N33 N36q
                              have K37 : ∀ t, Steps p.tables e below (T36.setTop (mkF m 186 #[.val (.long q0), .second, .val (.int p1), .val (.int p2), .val (.int p3), .val (.ref b2), .val (.int v73), .val (.int v89), .val (.int v100)] [(.int (fClr (3 : Int32) v73 v100 f65))])) t → P0 t := by
                                intro t kt
                                refine K34 t ?_
                                show Steps p.tables e below (T33.setTop (mkF m 173 #[.val (.long q0), .second, .val (.int p1), .val (.int p2), .val (.int p3), .val (.ref b2), .val (.int v73), .val (.int v89), .val (.int v100)] [(.int (fClr (2 : Int32) v73 v100 f65))])) t
                                refine XS.ifNo X33.here hx rfl (hb hby at_173) rfl ((if0 _ _).trans (feq hc173).1) ?_
                                show Steps p.tables e below (T33.setTop (mkF m 176 #[.val (.long q0), .second, .val (.int p1), .val (.int p2), .val (.int p3), .val (.ref b2), .val (.int v73), .val (.int v89), .val (.int v100)] [])) t
                                refine XS.aload X33.here hx rfl (hb hby at_176) rfl rfl ?_
                                show Steps p.tables e below (T33.setTop (mkF m 178 #[.val (.long q0), .second, .val (.int p1), .val (.int p2), .val (.int p3), .val (.ref b2), .val (.int v73), .val (.int v89), .val (.int v100)] [(.ref b2)])) t
                                refine XS.iconst X33.here hx rfl (hb hby at_178) ?_
                                show Steps p.tables e below (T33.setTop (mkF m 179 #[.val (.long q0), .second, .val (.int p1), .val (.int p2), .val (.int p3), .val (.ref b2), .val (.int v73), .val (.int v89), .val (.int v100)] [(.int (3 : Int32)), (.ref b2)])) t
                                refine XS.iload X33.here hx rfl (hb hby at_179) rfl ?_
                                show Steps p.tables e below (T33.setTop (mkF m 181 #[.val (.long q0), .second, .val (.int p1), .val (.int p2), .val (.int p3), .val (.ref b2), .val (.int v73), .val (.int v89), .val (.int v100)] [(.int v73), (.int (3 : Int32)), (.ref b2)])) t
                                refine XS.iload X33.here hx rfl (hb hby at_181) rfl ?_
                                show Steps p.tables e below (T33.setTop (mkF m 183 #[.val (.long q0), .second, .val (.int p1), .val (.int p2), .val (.int p3), .val (.ref b2), .val (.int v73), .val (.int v89), .val (.int v100)] [(.int v100), (.int v73), (.int (3 : Int32)), (.ref b2)])) t
                                refine st36 _ ?_
                                exact kt
                              obtain ⟨j220_s0_2, T53, lc54, hj220_s0_2, X55, e56, N57, K58⟩ : ∃ (j220_s0_2 : Int32) (T53 : State) (lc54 : List Loc), j220_s0_2 = (if (fClr (3 : Int32) v73 v100 f65) = (0 : Int32) then (0 : Int32) else (if (fClr (4 : Int32) v73 v100 f65) = (0 : Int32) then (0 : Int32) else (if (fClr (5 : Int32) v73 v100 f65) = (0 : Int32) then (0 : Int32) else (1 : Int32)))) ∧ Stand p l e room_1 s m #[(.long q0), (.int p1), (.int p2), (.int p3)] below meth c T53 lc54 1 6 ∧ T53.heap = h13 ∧ Fr n0 lc54 ∧ ∀ t, Steps p.tables e below (T53.setTop (mkF m 220 #[.val (.long q0), .second, .val (.int p1), .val (.int p2), .val (.int p3), .val (.ref b2), .val (.int v73), .val (.int v89), .val (.int v100)] [(.int j220_s0_2)])) t → P0 t := by
                                by_cases hc186 : (fClr (3 : Int32) v73 v100 f65) = (0 : Int32)
                                · have K38 : ∀ t, Steps p.tables e below (T36.setTop (mkF m 220 #[.val (.long q0), .second, .val (.int p1), .val (.int p2), .val (.int p3), .val (.ref b2), .val (.int v73), .val (.int v89), .val (.int v100)] [(.int (0 : Int32))])) t → P0 t := by
                                    intro t kt
                                    refine K37 t ?_
                                    show Steps p.tables e below (T36.setTop (mkF m 186 #[.val (.long q0), .second, .val (.int p1), .val (.int p2), .val (.int p3), .val (.ref b2), .val (.int v73), .val (.int v89), .val (.int v100)] [(.int (fClr (3 : Int32) v73 v100 f65))])) t
                                    refine XS.ifYes X36.here hx rfl (pc0 := 186) (pc' := 219) rfl (hb hby at_186) rfl ((if0 _ _).trans (teq hc186).1) (by decide) (by decide) ?_
                                    show Steps p.tables e below (T36.setTop (mkF m 219 #[.val (.long q0), .second, .val (.int p1), .val (.int p2), .val (.int p3), .val (.ref b2), .val (.int v73), .val (.int v89), .val (.int v100)] [])) t
                                    refine XS.iconst X36.here hx rfl (hb hby at_219) ?_
                                    exact kt
                                  exact ⟨_, _, _, (if_pos hc186).symm, X36, e36, N36, K38⟩
                                · obtain ⟨_, _, ⟨T39, L39, k39, n39⟩, -, X39, ⟨Lc39, hQ39, l39, y39, z39⟩, st39⟩ := Jvm.LawKit.callS X36 hx (y := (⟨"com/example/lowtide/lowtide/ColumnsEndPinLaw", "clear", "([BIII)Z"⟩ : MethodName)) hown (mvT hZ (hw _ (List.mem_of_getElem? (i := 10) rfl))) (mvT hZ (hw _ (List.mem_of_getElem? (i := 11) rfl))) (mvT hZ (hw _ (List.mem_of_getElem? (i := 3) rfl))) (mvT hZ (hw _ (List.mem_of_getElem? (i := 12) rfl))) (by decide) (backOf (W := 0) (rm_clr l Z a0 hw [] b2 (4 : Int32) v73 v100 f65 h13 n0 Z13 V13' (by decide)) hZ (hw _ (List.mem_of_getElem? (i := 12) rfl)) (hw _ (List.mem_of_getElem? (i := 3) rfl)) (by decide) (by decide)) (g := (mkF m 196 #[.val (.long q0), .second, .val (.int p1), .val (.int p2), .val (.int p3), .val (.ref b2), .val (.int v73), .val (.int v89), .val (.int v100)] [(.int v100), (.int v73), (.int (4 : Int32)), (.ref b2)])) rfl (by rw [hml]; rfl) (argsL := [(.ref b2), (.int (4 : Int32)), (.int v73), (.int v100)]) (rest := []) (lenOf law_pd2 rfl) rfl (by show 2 * 0 + _ ≤ _; exact Nat.le_of_eq rfl) (hb hby at_196) (fun _ _ => ⟨rfl, e36, (by decide : 1 + 0 ≤ _), (by decide : 6 + 0 ≤ _)⟩)
                                  dsimp only [Pt.U, Pt.locs, Pt.cells, Pt.slots] at X39 l39 y39 z39 st39 hQ39
                                  subst l39 y39 z39
                                  obtain ⟨rfl, N39q, e39⟩ := hQ39
                                  have N39 := Fr.app N36 N39q
                                  have K40 : ∀ t, Steps p.tables e below (T39.setTop (mkF m 199 #[.val (.long q0), .second, .val (.int p1), .val (.int p2), .val (.int p3), .val (.ref b2), .val (.int v73), .val (.int v89), .val (.int v100)] [(.int (fClr (4 : Int32) v73 v100 f65))])) t → P0 t := by
                                    intro t kt
                                    refine K37 t ?_
                                    show Steps p.tables e below (T36.setTop (mkF m 186 #[.val (.long q0), .second, .val (.int p1), .val (.int p2), .val (.int p3), .val (.ref b2), .val (.int v73), .val (.int v89), .val (.int v100)] [(.int (fClr (3 : Int32) v73 v100 f65))])) t
                                    refine XS.ifNo X36.here hx rfl (hb hby at_186) rfl ((if0 _ _).trans (feq hc186).1) ?_
                                    show Steps p.tables e below (T36.setTop (mkF m 189 #[.val (.long q0), .second, .val (.int p1), .val (.int p2), .val (.int p3), .val (.ref b2), .val (.int v73), .val (.int v89), .val (.int v100)] [])) t
                                    refine XS.aload X36.here hx rfl (hb hby at_189) rfl rfl ?_
                                    show Steps p.tables e below (T36.setTop (mkF m 191 #[.val (.long q0), .second, .val (.int p1), .val (.int p2), .val (.int p3), .val (.ref b2), .val (.int v73), .val (.int v89), .val (.int v100)] [(.ref b2)])) t
                                    refine XS.iconst X36.here hx rfl (hb hby at_191) ?_
                                    show Steps p.tables e below (T36.setTop (mkF m 192 #[.val (.long q0), .second, .val (.int p1), .val (.int p2), .val (.int p3), .val (.ref b2), .val (.int v73), .val (.int v89), .val (.int v100)] [(.int (4 : Int32)), (.ref b2)])) t
                                    refine XS.iload X36.here hx rfl (hb hby at_192) rfl ?_
                                    show Steps p.tables e below (T36.setTop (mkF m 194 #[.val (.long q0), .second, .val (.int p1), .val (.int p2), .val (.int p3), .val (.ref b2), .val (.int v73), .val (.int v89), .val (.int v100)] [(.int v73), (.int (4 : Int32)), (.ref b2)])) t
                                    refine XS.iload X36.here hx rfl (hb hby at_194) rfl ?_
                                    show Steps p.tables e below (T36.setTop (mkF m 196 #[.val (.long q0), .second, .val (.int p1), .val (.int p2), .val (.int p3), .val (.ref b2), .val (.int v73), .val (.int v89), .val (.int v100)] [(.int v100), (.int v73), (.int (4 : Int32)), (.ref b2)])) t
                                    refine st39 _ ?_
                                    exact kt
                                  obtain ⟨j220_s0_1, T47, lc48, hj220_s0_1, X49, e50, N51, K52⟩ : ∃ (j220_s0_1 : Int32) (T47 : State) (lc48 : List Loc), j220_s0_1 = (if (fClr (4 : Int32) v73 v100 f65) = (0 : Int32) then (0 : Int32) else (if (fClr (5 : Int32) v73 v100 f65) = (0 : Int32) then (0 : Int32) else (1 : Int32))) ∧ Stand p l e room_1 s m #[(.long q0), (.int p1), (.int p2), (.int p3)] below meth c T47 lc48 1 6 ∧ T47.heap = h13 ∧ Fr n0 lc48 ∧ ∀ t, Steps p.tables e below (T47.setTop (mkF m 220 #[.val (.long q0), .second, .val (.int p1), .val (.int p2), .val (.int p3), .val (.ref b2), .val (.int v73), .val (.int v89), .val (.int v100)] [(.int j220_s0_1)])) t → P0 t := by
                                    by_cases hc199 : (fClr (4 : Int32) v73 v100 f65) = (0 : Int32)
                                    · have K41 : ∀ t, Steps p.tables e below (T39.setTop (mkF m 220 #[.val (.long q0), .second, .val (.int p1), .val (.int p2), .val (.int p3), .val (.ref b2), .val (.int v73), .val (.int v89), .val (.int v100)] [(.int (0 : Int32))])) t → P0 t := by
                                        intro t kt
                                        refine K40 t ?_
                                        show Steps p.tables e below (T39.setTop (mkF m 199 #[.val (.long q0), .second, .val (.int p1), .val (.int p2), .val (.int p3), .val (.ref b2), .val (.int v73), .val (.int v89), .val (.int v100)] [(.int (fClr (4 : Int32) v73 v100 f65))])) t
                                        refine XS.ifYes X39.here hx rfl (pc0 := 199) (pc' := 219) rfl (hb hby at_199) rfl ((if0 _ _).trans (teq hc199).1) (by decide) (by decide) ?_
                                        show Steps p.tables e below (T39.setTop (mkF m 219 #[.val (.long q0), .second, .val (.int p1), .val (.int p2), .val (.int p3), .val (.ref b2), .val (.int v73), .val (.int v89), .val (.int v100)] [])) t
                                        refine XS.iconst X39.here hx rfl (hb hby at_219) ?_
                                        exact kt
                                      exact ⟨_, _, _, (if_pos hc199).symm, X39, e39, N39, K41⟩
                                    · obtain ⟨_, _, ⟨T42, L42, k42, n42⟩, -, X42, ⟨Lc42, hQ42, l42, y42, z42⟩, st42⟩ := Jvm.LawKit.callS X39 hx (y := (⟨"com/example/lowtide/lowtide/ColumnsEndPinLaw", "clear", "([BIII)Z"⟩ : MethodName)) hown (mvT hZ (hw _ (List.mem_of_getElem? (i := 10) rfl))) (mvT hZ (hw _ (List.mem_of_getElem? (i := 11) rfl))) (mvT hZ (hw _ (List.mem_of_getElem? (i := 3) rfl))) (mvT hZ (hw _ (List.mem_of_getElem? (i := 12) rfl))) (by decide) (backOf (W := 0) (rm_clr l Z a0 hw [] b2 (5 : Int32) v73 v100 f65 h13 n0 Z13 V13' (by decide)) hZ (hw _ (List.mem_of_getElem? (i := 12) rfl)) (hw _ (List.mem_of_getElem? (i := 3) rfl)) (by decide) (by decide)) (g := (mkF m 209 #[.val (.long q0), .second, .val (.int p1), .val (.int p2), .val (.int p3), .val (.ref b2), .val (.int v73), .val (.int v89), .val (.int v100)] [(.int v100), (.int v73), (.int (5 : Int32)), (.ref b2)])) rfl (by rw [hml]; rfl) (argsL := [(.ref b2), (.int (5 : Int32)), (.int v73), (.int v100)]) (rest := []) (lenOf law_pd2 rfl) rfl (by show 2 * 0 + _ ≤ _; exact Nat.le_of_eq rfl) (hb hby at_209) (fun _ _ => ⟨rfl, e39, (by decide : 1 + 0 ≤ _), (by decide : 6 + 0 ≤ _)⟩)
                                      dsimp only [Pt.U, Pt.locs, Pt.cells, Pt.slots] at X42 l42 y42 z42 st42 hQ42
                                      subst l42 y42 z42
                                      obtain ⟨rfl, N42q, e42⟩ := hQ42
                                      have N42 := Fr.app N39 N42q
                                      have K43 : ∀ t, Steps p.tables e below (T42.setTop (mkF m 212 #[.val (.long q0), .second, .val (.int p1), .val (.int p2), .val (.int p3), .val (.ref b2), .val (.int v73), .val (.int v89), .val (.int v100)] [(.int (fClr (5 : Int32) v73 v100 f65))])) t → P0 t := by
                                        intro t kt
                                        refine K40 t ?_
                                        show Steps p.tables e below (T39.setTop (mkF m 199 #[.val (.long q0), .second, .val (.int p1), .val (.int p2), .val (.int p3), .val (.ref b2), .val (.int v73), .val (.int v89), .val (.int v100)] [(.int (fClr (4 : Int32) v73 v100 f65))])) t
                                        refine XS.ifNo X39.here hx rfl (hb hby at_199) rfl ((if0 _ _).trans (feq hc199).1) ?_
                                        show Steps p.tables e below (T39.setTop (mkF m 202 #[.val (.long q0), .second, .val (.int p1), .val (.int p2), .val (.int p3), .val (.ref b2), .val (.int v73), .val (.int v89), .val (.int v100)] [])) t
                                        refine XS.aload X39.here hx rfl (hb hby at_202) rfl rfl ?_
                                        show Steps p.tables e below (T39.setTop (mkF m 204 #[.val (.long q0), .second, .val (.int p1), .val (.int p2), .val (.int p3), .val (.ref b2), .val (.int v73), .val (.int v89), .val (.int v100)] [(.ref b2)])) t
                                        refine XS.iconst X39.here hx rfl (hb hby at_204) ?_
                                        show Steps p.tables e below (T39.setTop (mkF m 205 #[.val (.long q0), .second, .val (.int p1), .val (.int p2), .val (.int p3), .val (.ref b2), .val (.int v73), .val (.int v89), .val (.int v100)] [(.int (5 : Int32)), (.ref b2)])) t
                                        refine XS.iload X39.here hx rfl (hb hby at_205) rfl ?_
                                        show Steps p.tables e below (T39.setTop (mkF m 207 #[.val (.long q0), .second, .val (.int p1), .val (.int p2), .val (.int p3), .val (.ref b2), .val (.int v73), .val (.int v89), .val (.int v100)] [(.int v73), (.int (5 : Int32)), (.ref b2)])) t
                                        refine XS.iload X39.here hx rfl (hb hby at_207) rfl ?_
                                        show Steps p.tables e below (T39.setTop (mkF m 209 #[.val (.long q0), .second, .val (.int p1), .val (.int p2), .val (.int p3), .val (.ref b2), .val (.int v73), .val (.int v89), .val (.int v100)] [(.int v100), (.int v73), (.int (5 : Int32)), (.ref b2)])) t
                                        refine st42 _ ?_
                                        exact kt
                                      obtain ⟨j220_s0, hj220_s0, K46⟩ : ∃ (j220_s0 : Int32), j220_s0 = (if (fClr (5 : Int32) v73 v100 f65) = (0 : Int32) then (0 : Int32) else (1 : Int32)) ∧ ∀ t, Steps p.tables e below (T42.setTop (mkF m 220 #[.val (.long q0), .second, .val (.int p1), .val (.int p2), .val (.int p3), .val (.ref b2), .val (.int v73), .val (.int v89), .val (.int v100)] [(.int j220_s0)])) t → P0 t := by
                                        by_cases hc212 : (fClr (5 : Int32) v73 v100 f65) = (0 : Int32)
                                        · have K44 : ∀ t, Steps p.tables e below (T42.setTop (mkF m 220 #[.val (.long q0), .second, .val (.int p1), .val (.int p2), .val (.int p3), .val (.ref b2), .val (.int v73), .val (.int v89), .val (.int v100)] [(.int (0 : Int32))])) t → P0 t := by
                                            intro t kt
                                            refine K43 t ?_
                                            show Steps p.tables e below (T42.setTop (mkF m 212 #[.val (.long q0), .second, .val (.int p1), .val (.int p2), .val (.int p3), .val (.ref b2), .val (.int v73), .val (.int v89), .val (.int v100)] [(.int (fClr (5 : Int32) v73 v100 f65))])) t
                                            refine XS.ifYes X42.here hx rfl (pc0 := 212) (pc' := 219) rfl (hb hby at_212) rfl ((if0 _ _).trans (teq hc212).1) (by decide) (by decide) ?_
                                            show Steps p.tables e below (T42.setTop (mkF m 219 #[.val (.long q0), .second, .val (.int p1), .val (.int p2), .val (.int p3), .val (.ref b2), .val (.int v73), .val (.int v89), .val (.int v100)] [])) t
                                            refine XS.iconst X42.here hx rfl (hb hby at_219) ?_
                                            exact kt
                                          exact ⟨_, (if_pos hc212).symm, K44⟩
                                        · have K45 : ∀ t, Steps p.tables e below (T42.setTop (mkF m 220 #[.val (.long q0), .second, .val (.int p1), .val (.int p2), .val (.int p3), .val (.ref b2), .val (.int v73), .val (.int v89), .val (.int v100)] [(.int (1 : Int32))])) t → P0 t := by
                                            intro t kt
                                            refine K43 t ?_
                                            show Steps p.tables e below (T42.setTop (mkF m 212 #[.val (.long q0), .second, .val (.int p1), .val (.int p2), .val (.int p3), .val (.ref b2), .val (.int v73), .val (.int v89), .val (.int v100)] [(.int (fClr (5 : Int32) v73 v100 f65))])) t
                                            refine XS.ifNo X42.here hx rfl (hb hby at_212) rfl ((if0 _ _).trans (feq hc212).1) ?_
                                            show Steps p.tables e below (T42.setTop (mkF m 215 #[.val (.long q0), .second, .val (.int p1), .val (.int p2), .val (.int p3), .val (.ref b2), .val (.int v73), .val (.int v89), .val (.int v100)] [])) t
                                            refine XS.iconst X42.here hx rfl (hb hby at_215) ?_
                                            show Steps p.tables e below (T42.setTop (mkF m 216 #[.val (.long q0), .second, .val (.int p1), .val (.int p2), .val (.int p3), .val (.ref b2), .val (.int v73), .val (.int v89), .val (.int v100)] [(.int (1 : Int32))])) t
                                            refine XS.goto X42.here hx rfl (pc0 := 216) (pc' := 220) rfl (hb hby at_216) (by decide) (by decide) ?_
                                            exact kt
                                          exact ⟨_, (if_neg hc212).symm, K45⟩
                                      subst hj220_s0
                                      exact ⟨_, _, _, (if_neg hc199).symm, X42, e42, N42, K46⟩
                                  subst hj220_s0_1
                                  exact ⟨_, _, _, (if_neg hc186).symm, X49, e50, N51, K52⟩
                              subst hj220_s0_2
                              exact ⟨_, _, _, (if_neg hc173).symm, X55, e56, N57, K58⟩
                          subst hj220_s0_3
                          exact ⟨_, _, _, (if_neg hc160).symm, X61, e62, N63, K64⟩
                      subst hj220_s0_4
                      exact ⟨_, _, _, (if_neg hc147).symm, X67, e68, N69, K70⟩
                  subst hj220_s0_5
                  exact ⟨_, _, _, _, _, _, (if_pos hc132).symm, X73, e74, N75, (hb hby at_220), K76⟩
                · have K77 : ∀ t, Steps p.tables e below (T18.setTop (mkF m 136 #[.val (.long q0), .second, .val (.int p1), .val (.int p2), .val (.int p3), .val (.ref b2), .val (.int v73), .val (.int v89), .val (.int v100)] [(.int (0 : Int32))])) t → P0 t := by
                    intro t kt
                    refine K26 t ?_
                    show Steps p.tables e below (T18.setTop (mkF m 132 #[.val (.long q0), .second, .val (.int p1), .val (.int p2), .val (.int p3), .val (.ref b2), .val (.int v73), .val (.int v89), .val (.int v100)] [(.int (9 : Int32)), (.int (f65 (v100).toNatClampNeg))])) t
                    refine XS.icmpNo X18.here hx rfl (hb hby at_132) rfl (feq hc132).1 ?_
                    show Steps p.tables e below (T18.setTop (mkF m 135 #[.val (.long q0), .second, .val (.int p1), .val (.int p2), .val (.int p3), .val (.ref b2), .val (.int v73), .val (.int v89), .val (.int v100)] [])) t
                    refine XS.iconst X18.here hx rfl (hb hby at_135) ?_
                    exact kt
                  exact ⟨_, _, _, _, _, _, (if_neg hc132).symm, X18, e18, N18, (hb hby at_136), K77⟩
              subst hjx132
              exact ⟨_, _, _, _, _, _, (if_pos hc122).symm, X80, e81, N82, hdx132, K83⟩
            · obtain ⟨_, _, ⟨T84, L84, k84, n84⟩, -, X84, ⟨Lc84, hQ84, l84, y84, z84⟩, st84⟩ := Jvm.LawKit.callS X18 hx (y := (⟨"com/example/lowtide/lowtide/ColumnsEndPinLaw", "clear", "([BIII)Z"⟩ : MethodName)) hown (mvT hZ (hw _ (List.mem_of_getElem? (i := 10) rfl))) (mvT hZ (hw _ (List.mem_of_getElem? (i := 11) rfl))) (mvT hZ (hw _ (List.mem_of_getElem? (i := 3) rfl))) (mvT hZ (hw _ (List.mem_of_getElem? (i := 12) rfl))) (by decide) (backOf (W := 0) (rm_clr l Z a0 hw [] b2 (0 : Int32) v73 v100 f65 h13 n0 Z13 V13' (by decide)) hZ (hw _ (List.mem_of_getElem? (i := 12) rfl)) (hw _ (List.mem_of_getElem? (i := 3) rfl)) (by decide) (by decide)) (g := (mkF m 144 #[.val (.long q0), .second, .val (.int p1), .val (.int p2), .val (.int p3), .val (.ref b2), .val (.int v73), .val (.int v89), .val (.int v100)] [(.int v100), (.int v73), (.int (0 : Int32)), (.ref b2)])) rfl (by rw [hml]; rfl) (argsL := [(.ref b2), (.int (0 : Int32)), (.int v73), (.int v100)]) (rest := []) (lenOf law_pd2 rfl) rfl (by show 2 * 0 + _ ≤ _; exact Nat.le_of_eq rfl) (hb hby at_144) (fun _ _ => ⟨rfl, e18, (by decide : 1 + 0 ≤ _), (by decide : 6 + 0 ≤ _)⟩)
              dsimp only [Pt.U, Pt.locs, Pt.cells, Pt.slots] at X84 l84 y84 z84 st84 hQ84
              subst l84 y84 z84
              obtain ⟨rfl, N84q, e84⟩ := hQ84
              have N84 := Fr.app N18 N84q
              have K85 : ∀ t, Steps p.tables e below (T84.setTop (mkF m 147 #[.val (.long q0), .second, .val (.int p1), .val (.int p2), .val (.int p3), .val (.ref b2), .val (.int v73), .val (.int v89), .val (.int v100)] [(.int (fClr (0 : Int32) v73 v100 f65))])) t → P0 t := by
                intro t kt
                refine K25 t ?_
                show Steps p.tables e below (T18.setTop (mkF m 122 #[.val (.long q0), .second, .val (.int p1), .val (.int p2), .val (.int p3), .val (.ref b2), .val (.int v73), .val (.int v89), .val (.int v100)] [(.int v89), (.int v100)])) t
                refine XS.icmpYes X18.here hx rfl (pc0 := 122) (pc' := 137) rfl (hb hby at_122) rfl (flt hc122).2.1 (by decide) (by decide) ?_
                show Steps p.tables e below (T18.setTop (mkF m 137 #[.val (.long q0), .second, .val (.int p1), .val (.int p2), .val (.int p3), .val (.ref b2), .val (.int v73), .val (.int v89), .val (.int v100)] [])) t
                refine XS.aload X18.here hx rfl (hb hby at_137) rfl rfl ?_
                show Steps p.tables e below (T18.setTop (mkF m 139 #[.val (.long q0), .second, .val (.int p1), .val (.int p2), .val (.int p3), .val (.ref b2), .val (.int v73), .val (.int v89), .val (.int v100)] [(.ref b2)])) t
                refine XS.iconst X18.here hx rfl (hb hby at_139) ?_
                show Steps p.tables e below (T18.setTop (mkF m 140 #[.val (.long q0), .second, .val (.int p1), .val (.int p2), .val (.int p3), .val (.ref b2), .val (.int v73), .val (.int v89), .val (.int v100)] [(.int (0 : Int32)), (.ref b2)])) t
                refine XS.iload X18.here hx rfl (hb hby at_140) rfl ?_
                show Steps p.tables e below (T18.setTop (mkF m 142 #[.val (.long q0), .second, .val (.int p1), .val (.int p2), .val (.int p3), .val (.ref b2), .val (.int v73), .val (.int v89), .val (.int v100)] [(.int v73), (.int (0 : Int32)), (.ref b2)])) t
                refine XS.iload X18.here hx rfl (hb hby at_142) rfl ?_
                show Steps p.tables e below (T18.setTop (mkF m 144 #[.val (.long q0), .second, .val (.int p1), .val (.int p2), .val (.int p3), .val (.ref b2), .val (.int v73), .val (.int v89), .val (.int v100)] [(.int v100), (.int v73), (.int (0 : Int32)), (.ref b2)])) t
                refine st84 _ ?_
                exact kt
              obtain ⟨j220_s0_11, T128, lc129, hj220_s0_11, X130, e131, N132, K133⟩ : ∃ (j220_s0_11 : Int32) (T128 : State) (lc129 : List Loc), j220_s0_11 = (if (fClr (0 : Int32) v73 v100 f65) = (0 : Int32) then (0 : Int32) else (if (fClr (1 : Int32) v73 v100 f65) = (0 : Int32) then (0 : Int32) else (if (fClr (2 : Int32) v73 v100 f65) = (0 : Int32) then (0 : Int32) else (if (fClr (3 : Int32) v73 v100 f65) = (0 : Int32) then (0 : Int32) else (if (fClr (4 : Int32) v73 v100 f65) = (0 : Int32) then (0 : Int32) else (if (fClr (5 : Int32) v73 v100 f65) = (0 : Int32) then (0 : Int32) else (1 : Int32))))))) ∧ Stand p l e room_1 s m #[(.long q0), (.int p1), (.int p2), (.int p3)] below meth c T128 lc129 1 6 ∧ T128.heap = h13 ∧ Fr n0 lc129 ∧ ∀ t, Steps p.tables e below (T128.setTop (mkF m 220 #[.val (.long q0), .second, .val (.int p1), .val (.int p2), .val (.int p3), .val (.ref b2), .val (.int v73), .val (.int v89), .val (.int v100)] [(.int j220_s0_11)])) t → P0 t := by
                by_cases hc147_1 : (fClr (0 : Int32) v73 v100 f65) = (0 : Int32)
                · have K86 : ∀ t, Steps p.tables e below (T84.setTop (mkF m 220 #[.val (.long q0), .second, .val (.int p1), .val (.int p2), .val (.int p3), .val (.ref b2), .val (.int v73), .val (.int v89), .val (.int v100)] [(.int (0 : Int32))])) t → P0 t := by
                    intro t kt
                    refine K85 t ?_
                    show Steps p.tables e below (T84.setTop (mkF m 147 #[.val (.long q0), .second, .val (.int p1), .val (.int p2), .val (.int p3), .val (.ref b2), .val (.int v73), .val (.int v89), .val (.int v100)] [(.int (fClr (0 : Int32) v73 v100 f65))])) t
                    refine XS.ifYes X84.here hx rfl (pc0 := 147) (pc' := 219) rfl (hb hby at_147) rfl ((if0 _ _).trans (teq hc147_1).1) (by decide) (by decide) ?_
                    show Steps p.tables e below (T84.setTop (mkF m 219 #[.val (.long q0), .second, .val (.int p1), .val (.int p2), .val (.int p3), .val (.ref b2), .val (.int v73), .val (.int v89), .val (.int v100)] [])) t
                    refine XS.iconst X84.here hx rfl (hb hby at_219) ?_
                    exact kt
                  exact ⟨_, _, _, (if_pos hc147_1).symm, X84, e84, N84, K86⟩
                · obtain ⟨_, _, ⟨T87, L87, k87, n87⟩, -, X87, ⟨Lc87, hQ87, l87, y87, z87⟩, st87⟩ := Jvm.LawKit.callS X84 hx (y := (⟨"com/example/lowtide/lowtide/ColumnsEndPinLaw", "clear", "([BIII)Z"⟩ : MethodName)) hown (mvT hZ (hw _ (List.mem_of_getElem? (i := 10) rfl))) (mvT hZ (hw _ (List.mem_of_getElem? (i := 11) rfl))) (mvT hZ (hw _ (List.mem_of_getElem? (i := 3) rfl))) (mvT hZ (hw _ (List.mem_of_getElem? (i := 12) rfl))) (by decide) (backOf (W := 0) (rm_clr l Z a0 hw [] b2 (1 : Int32) v73 v100 f65 h13 n0 Z13 V13' (by decide)) hZ (hw _ (List.mem_of_getElem? (i := 12) rfl)) (hw _ (List.mem_of_getElem? (i := 3) rfl)) (by decide) (by decide)) (g := (mkF m 157 #[.val (.long q0), .second, .val (.int p1), .val (.int p2), .val (.int p3), .val (.ref b2), .val (.int v73), .val (.int v89), .val (.int v100)] [(.int v100), (.int v73), (.int (1 : Int32)), (.ref b2)])) rfl (by rw [hml]; rfl) (argsL := [(.ref b2), (.int (1 : Int32)), (.int v73), (.int v100)]) (rest := []) (lenOf law_pd2 rfl) rfl (by show 2 * 0 + _ ≤ _; exact Nat.le_of_eq rfl) (hb hby at_157) (fun _ _ => ⟨rfl, e84, (by decide : 1 + 0 ≤ _), (by decide : 6 + 0 ≤ _)⟩)
                  dsimp only [Pt.U, Pt.locs, Pt.cells, Pt.slots] at X87 l87 y87 z87 st87 hQ87
                  subst l87 y87 z87
                  obtain ⟨rfl, N87q, e87⟩ := hQ87
                  have N87 := Fr.app N84 N87q
                  have K88 : ∀ t, Steps p.tables e below (T87.setTop (mkF m 160 #[.val (.long q0), .second, .val (.int p1), .val (.int p2), .val (.int p3), .val (.ref b2), .val (.int v73), .val (.int v89), .val (.int v100)] [(.int (fClr (1 : Int32) v73 v100 f65))])) t → P0 t := by
                    intro t kt
                    refine K85 t ?_
                    show Steps p.tables e below (T84.setTop (mkF m 147 #[.val (.long q0), .second, .val (.int p1), .val (.int p2), .val (.int p3), .val (.ref b2), .val (.int v73), .val (.int v89), .val (.int v100)] [(.int (fClr (0 : Int32) v73 v100 f65))])) t
                    refine XS.ifNo X84.here hx rfl (hb hby at_147) rfl ((if0 _ _).trans (feq hc147_1).1) ?_
                    show Steps p.tables e below (T84.setTop (mkF m 150 #[.val (.long q0), .second, .val (.int p1), .val (.int p2), .val (.int p3), .val (.ref b2), .val (.int v73), .val (.int v89), .val (.int v100)] [])) t
                    refine XS.aload X84.here hx rfl (hb hby at_150) rfl rfl ?_
                    show Steps p.tables e below (T84.setTop (mkF m 152 #[.val (.long q0), .second, .val (.int p1), .val (.int p2), .val (.int p3), .val (.ref b2), .val (.int v73), .val (.int v89), .val (.int v100)] [(.ref b2)])) t
                    refine XS.iconst X84.here hx rfl (hb hby at_152) ?_
                    show Steps p.tables e below (T84.setTop (mkF m 153 #[.val (.long q0), .second, .val (.int p1), .val (.int p2), .val (.int p3), .val (.ref b2), .val (.int v73), .val (.int v89), .val (.int v100)] [(.int (1 : Int32)), (.ref b2)])) t
                    refine XS.iload X84.here hx rfl (hb hby at_153) rfl ?_
                    show Steps p.tables e below (T84.setTop (mkF m 155 #[.val (.long q0), .second, .val (.int p1), .val (.int p2), .val (.int p3), .val (.ref b2), .val (.int v73), .val (.int v89), .val (.int v100)] [(.int v73), (.int (1 : Int32)), (.ref b2)])) t
                    refine XS.iload X84.here hx rfl (hb hby at_155) rfl ?_
                    show Steps p.tables e below (T84.setTop (mkF m 157 #[.val (.long q0), .second, .val (.int p1), .val (.int p2), .val (.int p3), .val (.ref b2), .val (.int v73), .val (.int v89), .val (.int v100)] [(.int v100), (.int v73), (.int (1 : Int32)), (.ref b2)])) t
                    refine st87 _ ?_
                    exact kt
                  obtain ⟨j220_s0_10, T122, lc123, hj220_s0_10, X124, e125, N126, K127⟩ : ∃ (j220_s0_10 : Int32) (T122 : State) (lc123 : List Loc), j220_s0_10 = (if (fClr (1 : Int32) v73 v100 f65) = (0 : Int32) then (0 : Int32) else (if (fClr (2 : Int32) v73 v100 f65) = (0 : Int32) then (0 : Int32) else (if (fClr (3 : Int32) v73 v100 f65) = (0 : Int32) then (0 : Int32) else (if (fClr (4 : Int32) v73 v100 f65) = (0 : Int32) then (0 : Int32) else (if (fClr (5 : Int32) v73 v100 f65) = (0 : Int32) then (0 : Int32) else (1 : Int32)))))) ∧ Stand p l e room_1 s m #[(.long q0), (.int p1), (.int p2), (.int p3)] below meth c T122 lc123 1 6 ∧ T122.heap = h13 ∧ Fr n0 lc123 ∧ ∀ t, Steps p.tables e below (T122.setTop (mkF m 220 #[.val (.long q0), .second, .val (.int p1), .val (.int p2), .val (.int p3), .val (.ref b2), .val (.int v73), .val (.int v89), .val (.int v100)] [(.int j220_s0_10)])) t → P0 t := by
                    by_cases hc160_1 : (fClr (1 : Int32) v73 v100 f65) = (0 : Int32)
                    · have K89 : ∀ t, Steps p.tables e below (T87.setTop (mkF m 220 #[.val (.long q0), .second, .val (.int p1), .val (.int p2), .val (.int p3), .val (.ref b2), .val (.int v73), .val (.int v89), .val (.int v100)] [(.int (0 : Int32))])) t → P0 t := by
                        intro t kt
                        refine K88 t ?_
                        show Steps p.tables e below (T87.setTop (mkF m 160 #[.val (.long q0), .second, .val (.int p1), .val (.int p2), .val (.int p3), .val (.ref b2), .val (.int v73), .val (.int v89), .val (.int v100)] [(.int (fClr (1 : Int32) v73 v100 f65))])) t
                        refine XS.ifYes X87.here hx rfl (pc0 := 160) (pc' := 219) rfl (hb hby at_160) rfl ((if0 _ _).trans (teq hc160_1).1) (by decide) (by decide) ?_
                        show Steps p.tables e below (T87.setTop (mkF m 219 #[.val (.long q0), .second, .val (.int p1), .val (.int p2), .val (.int p3), .val (.ref b2), .val (.int v73), .val (.int v89), .val (.int v100)] [])) t
                        refine XS.iconst X87.here hx rfl (hb hby at_219) ?_
                        exact kt
                      exact ⟨_, _, _, (if_pos hc160_1).symm, X87, e87, N87, K89⟩
                    · obtain ⟨_, _, ⟨T90, L90, k90, n90⟩, -, X90, ⟨Lc90, hQ90, l90, y90, z90⟩, st90⟩ := Jvm.LawKit.callS X87 hx (y := (⟨"com/example/lowtide/lowtide/ColumnsEndPinLaw", "clear", "([BIII)Z"⟩ : MethodName)) hown (mvT hZ (hw _ (List.mem_of_getElem? (i := 10) rfl))) (mvT hZ (hw _ (List.mem_of_getElem? (i := 11) rfl))) (mvT hZ (hw _ (List.mem_of_getElem? (i := 3) rfl))) (mvT hZ (hw _ (List.mem_of_getElem? (i := 12) rfl))) (by decide) (backOf (W := 0) (rm_clr l Z a0 hw [] b2 (2 : Int32) v73 v100 f65 h13 n0 Z13 V13' (by decide)) hZ (hw _ (List.mem_of_getElem? (i := 12) rfl)) (hw _ (List.mem_of_getElem? (i := 3) rfl)) (by decide) (by decide)) (g := (mkF m 170 #[.val (.long q0), .second, .val (.int p1), .val (.int p2), .val (.int p3), .val (.ref b2), .val (.int v73), .val (.int v89), .val (.int v100)] [(.int v100), (.int v73), (.int (2 : Int32)), (.ref b2)])) rfl (by rw [hml]; rfl) (argsL := [(.ref b2), (.int (2 : Int32)), (.int v73), (.int v100)]) (rest := []) (lenOf law_pd2 rfl) rfl (by show 2 * 0 + _ ≤ _; exact Nat.le_of_eq rfl) (hb hby at_170) (fun _ _ => ⟨rfl, e87, (by decide : 1 + 0 ≤ _), (by decide : 6 + 0 ≤ _)⟩)
                      dsimp only [Pt.U, Pt.locs, Pt.cells, Pt.slots] at X90 l90 y90 z90 st90 hQ90
                      subst l90 y90 z90
                      obtain ⟨rfl, N90q, e90⟩ := hQ90
                      have N90 := Fr.app N87 N90q
                      have K91 : ∀ t, Steps p.tables e below (T90.setTop (mkF m 173 #[.val (.long q0), .second, .val (.int p1), .val (.int p2), .val (.int p3), .val (.ref b2), .val (.int v73), .val (.int v89), .val (.int v100)] [(.int (fClr (2 : Int32) v73 v100 f65))])) t → P0 t := by
                        intro t kt
                        refine K88 t ?_
                        show Steps p.tables e below (T87.setTop (mkF m 160 #[.val (.long q0), .second, .val (.int p1), .val (.int p2), .val (.int p3), .val (.ref b2), .val (.int v73), .val (.int v89), .val (.int v100)] [(.int (fClr (1 : Int32) v73 v100 f65))])) t
                        refine XS.ifNo X87.here hx rfl (hb hby at_160) rfl ((if0 _ _).trans (feq hc160_1).1) ?_
                        show Steps p.tables e below (T87.setTop (mkF m 163 #[.val (.long q0), .second, .val (.int p1), .val (.int p2), .val (.int p3), .val (.ref b2), .val (.int v73), .val (.int v89), .val (.int v100)] [])) t
                        refine XS.aload X87.here hx rfl (hb hby at_163) rfl rfl ?_
                        show Steps p.tables e below (T87.setTop (mkF m 165 #[.val (.long q0), .second, .val (.int p1), .val (.int p2), .val (.int p3), .val (.ref b2), .val (.int v73), .val (.int v89), .val (.int v100)] [(.ref b2)])) t
                        refine XS.iconst X87.here hx rfl (hb hby at_165) ?_
                        show Steps p.tables e below (T87.setTop (mkF m 166 #[.val (.long q0), .second, .val (.int p1), .val (.int p2), .val (.int p3), .val (.ref b2), .val (.int v73), .val (.int v89), .val (.int v100)] [(.int (2 : Int32)), (.ref b2)])) t
                        refine XS.iload X87.here hx rfl (hb hby at_166) rfl ?_
                        show Steps p.tables e below (T87.setTop (mkF m 168 #[.val (.long q0), .second, .val (.int p1), .val (.int p2), .val (.int p3), .val (.ref b2), .val (.int v73), .val (.int v89), .val (.int v100)] [(.int v73), (.int (2 : Int32)), (.ref b2)])) t
                        refine XS.iload X87.here hx rfl (hb hby at_168) rfl ?_
                        show Steps p.tables e below (T87.setTop (mkF m 170 #[.val (.long q0), .second, .val (.int p1), .val (.int p2), .val (.int p3), .val (.ref b2), .val (.int v73), .val (.int v89), .val (.int v100)] [(.int v100), (.int v73), (.int (2 : Int32)), (.ref b2)])) t
                        refine st90 _ ?_
                        exact kt
                      obtain ⟨j220_s0_9, T116, lc117, hj220_s0_9, X118, e119, N120, K121⟩ : ∃ (j220_s0_9 : Int32) (T116 : State) (lc117 : List Loc), j220_s0_9 = (if (fClr (2 : Int32) v73 v100 f65) = (0 : Int32) then (0 : Int32) else (if (fClr (3 : Int32) v73 v100 f65) = (0 : Int32) then (0 : Int32) else (if (fClr (4 : Int32) v73 v100 f65) = (0 : Int32) then (0 : Int32) else (if (fClr (5 : Int32) v73 v100 f65) = (0 : Int32) then (0 : Int32) else (1 : Int32))))) ∧ Stand p l e room_1 s m #[(.long q0), (.int p1), (.int p2), (.int p3)] below meth c T116 lc117 1 6 ∧ T116.heap = h13 ∧ Fr n0 lc117 ∧ ∀ t, Steps p.tables e below (T116.setTop (mkF m 220 #[.val (.long q0), .second, .val (.int p1), .val (.int p2), .val (.int p3), .val (.ref b2), .val (.int v73), .val (.int v89), .val (.int v100)] [(.int j220_s0_9)])) t → P0 t := by
                        by_cases hc173_1 : (fClr (2 : Int32) v73 v100 f65) = (0 : Int32)
                        · have K92 : ∀ t, Steps p.tables e below (T90.setTop (mkF m 220 #[.val (.long q0), .second, .val (.int p1), .val (.int p2), .val (.int p3), .val (.ref b2), .val (.int v73), .val (.int v89), .val (.int v100)] [(.int (0 : Int32))])) t → P0 t := by
                            intro t kt
                            refine K91 t ?_
                            show Steps p.tables e below (T90.setTop (mkF m 173 #[.val (.long q0), .second, .val (.int p1), .val (.int p2), .val (.int p3), .val (.ref b2), .val (.int v73), .val (.int v89), .val (.int v100)] [(.int (fClr (2 : Int32) v73 v100 f65))])) t
                            refine XS.ifYes X90.here hx rfl (pc0 := 173) (pc' := 219) rfl (hb hby at_173) rfl ((if0 _ _).trans (teq hc173_1).1) (by decide) (by decide) ?_
                            show Steps p.tables e below (T90.setTop (mkF m 219 #[.val (.long q0), .second, .val (.int p1), .val (.int p2), .val (.int p3), .val (.ref b2), .val (.int v73), .val (.int v89), .val (.int v100)] [])) t
                            refine XS.iconst X90.here hx rfl (hb hby at_219) ?_
                            exact kt
                          exact ⟨_, _, _, (if_pos hc173_1).symm, X90, e90, N90, K92⟩
                        · obtain ⟨_, _, ⟨T93, L93, k93, n93⟩, -, X93, ⟨Lc93, hQ93, l93, y93, z93⟩, st93⟩ := Jvm.LawKit.callS X90 hx (y := (⟨"com/example/lowtide/lowtide/ColumnsEndPinLaw", "clear", "([BIII)Z"⟩ : MethodName)) hown (mvT hZ (hw _ (List.mem_of_getElem? (i := 10) rfl))) (mvT hZ (hw _ (List.mem_of_getElem? (i := 11) rfl))) (mvT hZ (hw _ (List.mem_of_getElem? (i := 3) rfl))) (mvT hZ (hw _ (List.mem_of_getElem? (i := 12) rfl))) (by decide) (backOf (W := 0) (rm_clr l Z a0 hw [] b2 (3 : Int32) v73 v100 f65 h13 n0 Z13 V13' (by decide)) hZ (hw _ (List.mem_of_getElem? (i := 12) rfl)) (hw _ (List.mem_of_getElem? (i := 3) rfl)) (by decide) (by decide)) (g := (mkF m 183 #[.val (.long q0), .second, .val (.int p1), .val (.int p2), .val (.int p3), .val (.ref b2), .val (.int v73), .val (.int v89), .val (.int v100)] [(.int v100), (.int v73), (.int (3 : Int32)), (.ref b2)])) rfl (by rw [hml]; rfl) (argsL := [(.ref b2), (.int (3 : Int32)), (.int v73), (.int v100)]) (rest := []) (lenOf law_pd2 rfl) rfl (by show 2 * 0 + _ ≤ _; exact Nat.le_of_eq rfl) (hb hby at_183) (fun _ _ => ⟨rfl, e90, (by decide : 1 + 0 ≤ _), (by decide : 6 + 0 ≤ _)⟩)
                          dsimp only [Pt.U, Pt.locs, Pt.cells, Pt.slots] at X93 l93 y93 z93 st93 hQ93
                          subst l93 y93 z93
                          obtain ⟨rfl, N93q, e93⟩ := hQ93
                          have N93 := Fr.app N90 N93q
                          have K94 : ∀ t, Steps p.tables e below (T93.setTop (mkF m 186 #[.val (.long q0), .second, .val (.int p1), .val (.int p2), .val (.int p3), .val (.ref b2), .val (.int v73), .val (.int v89), .val (.int v100)] [(.int (fClr (3 : Int32) v73 v100 f65))])) t → P0 t := by
                            intro t kt
                            refine K91 t ?_
                            show Steps p.tables e below (T90.setTop (mkF m 173 #[.val (.long q0), .second, .val (.int p1), .val (.int p2), .val (.int p3), .val (.ref b2), .val (.int v73), .val (.int v89), .val (.int v100)] [(.int (fClr (2 : Int32) v73 v100 f65))])) t
                            refine XS.ifNo X90.here hx rfl (hb hby at_173) rfl ((if0 _ _).trans (feq hc173_1).1) ?_
                            show Steps p.tables e below (T90.setTop (mkF m 176 #[.val (.long q0), .second, .val (.int p1), .val (.int p2), .val (.int p3), .val (.ref b2), .val (.int v73), .val (.int v89), .val (.int v100)] [])) t
                            refine XS.aload X90.here hx rfl (hb hby at_176) rfl rfl ?_
                            show Steps p.tables e below (T90.setTop (mkF m 178 #[.val (.long q0), .second, .val (.int p1), .val (.int p2), .val (.int p3), .val (.ref b2), .val (.int v73), .val (.int v89), .val (.int v100)] [(.ref b2)])) t
                            refine XS.iconst X90.here hx rfl (hb hby at_178) ?_
                            show Steps p.tables e below (T90.setTop (mkF m 179 #[.val (.long q0), .second, .val (.int p1), .val (.int p2), .val (.int p3), .val (.ref b2), .val (.int v73), .val (.int v89), .val (.int v100)] [(.int (3 : Int32)), (.ref b2)])) t
                            refine XS.iload X90.here hx rfl (hb hby at_179) rfl ?_
                            show Steps p.tables e below (T90.setTop (mkF m 181 #[.val (.long q0), .second, .val (.int p1), .val (.int p2), .val (.int p3), .val (.ref b2), .val (.int v73), .val (.int v89), .val (.int v100)] [(.int v73), (.int (3 : Int32)), (.ref b2)])) t
                            refine XS.iload X90.here hx rfl (hb hby at_181) rfl ?_
                            show Steps p.tables e below (T90.setTop (mkF m 183 #[.val (.long q0), .second, .val (.int p1), .val (.int p2), .val (.int p3), .val (.ref b2), .val (.int v73), .val (.int v89), .val (.int v100)] [(.int v100), (.int v73), (.int (3 : Int32)), (.ref b2)])) t
                            refine st93 _ ?_
                            exact kt
                          obtain ⟨j220_s0_8, T110, lc111, hj220_s0_8, X112, e113, N114, K115⟩ : ∃ (j220_s0_8 : Int32) (T110 : State) (lc111 : List Loc), j220_s0_8 = (if (fClr (3 : Int32) v73 v100 f65) = (0 : Int32) then (0 : Int32) else (if (fClr (4 : Int32) v73 v100 f65) = (0 : Int32) then (0 : Int32) else (if (fClr (5 : Int32) v73 v100 f65) = (0 : Int32) then (0 : Int32) else (1 : Int32)))) ∧ Stand p l e room_1 s m #[(.long q0), (.int p1), (.int p2), (.int p3)] below meth c T110 lc111 1 6 ∧ T110.heap = h13 ∧ Fr n0 lc111 ∧ ∀ t, Steps p.tables e below (T110.setTop (mkF m 220 #[.val (.long q0), .second, .val (.int p1), .val (.int p2), .val (.int p3), .val (.ref b2), .val (.int v73), .val (.int v89), .val (.int v100)] [(.int j220_s0_8)])) t → P0 t := by
                            by_cases hc186_1 : (fClr (3 : Int32) v73 v100 f65) = (0 : Int32)
                            · have K95 : ∀ t, Steps p.tables e below (T93.setTop (mkF m 220 #[.val (.long q0), .second, .val (.int p1), .val (.int p2), .val (.int p3), .val (.ref b2), .val (.int v73), .val (.int v89), .val (.int v100)] [(.int (0 : Int32))])) t → P0 t := by
                                intro t kt
                                refine K94 t ?_
                                show Steps p.tables e below (T93.setTop (mkF m 186 #[.val (.long q0), .second, .val (.int p1), .val (.int p2), .val (.int p3), .val (.ref b2), .val (.int v73), .val (.int v89), .val (.int v100)] [(.int (fClr (3 : Int32) v73 v100 f65))])) t
                                refine XS.ifYes X93.here hx rfl (pc0 := 186) (pc' := 219) rfl (hb hby at_186) rfl ((if0 _ _).trans (teq hc186_1).1) (by decide) (by decide) ?_
                                show Steps p.tables e below (T93.setTop (mkF m 219 #[.val (.long q0), .second, .val (.int p1), .val (.int p2), .val (.int p3), .val (.ref b2), .val (.int v73), .val (.int v89), .val (.int v100)] [])) t
                                refine XS.iconst X93.here hx rfl (hb hby at_219) ?_
                                exact kt
                              exact ⟨_, _, _, (if_pos hc186_1).symm, X93, e93, N93, K95⟩
                            · obtain ⟨_, _, ⟨T96, L96, k96, n96⟩, -, X96, ⟨Lc96, hQ96, l96, y96, z96⟩, st96⟩ := Jvm.LawKit.callS X93 hx (y := (⟨"com/example/lowtide/lowtide/ColumnsEndPinLaw", "clear", "([BIII)Z"⟩ : MethodName)) hown (mvT hZ (hw _ (List.mem_of_getElem? (i := 10) rfl))) (mvT hZ (hw _ (List.mem_of_getElem? (i := 11) rfl))) (mvT hZ (hw _ (List.mem_of_getElem? (i := 3) rfl))) (mvT hZ (hw _ (List.mem_of_getElem? (i := 12) rfl))) (by decide) (backOf (W := 0) (rm_clr l Z a0 hw [] b2 (4 : Int32) v73 v100 f65 h13 n0 Z13 V13' (by decide)) hZ (hw _ (List.mem_of_getElem? (i := 12) rfl)) (hw _ (List.mem_of_getElem? (i := 3) rfl)) (by decide) (by decide)) (g := (mkF m 196 #[.val (.long q0), .second, .val (.int p1), .val (.int p2), .val (.int p3), .val (.ref b2), .val (.int v73), .val (.int v89), .val (.int v100)] [(.int v100), (.int v73), (.int (4 : Int32)), (.ref b2)])) rfl (by rw [hml]; rfl) (argsL := [(.ref b2), (.int (4 : Int32)), (.int v73), (.int v100)]) (rest := []) (lenOf law_pd2 rfl) rfl (by show 2 * 0 + _ ≤ _; exact Nat.le_of_eq rfl) (hb hby at_196) (fun _ _ => ⟨rfl, e93, (by decide : 1 + 0 ≤ _), (by decide : 6 + 0 ≤ _)⟩)
                              dsimp only [Pt.U, Pt.locs, Pt.cells, Pt.slots] at X96 l96 y96 z96 st96 hQ96
                              subst l96 y96 z96
                              obtain ⟨rfl, N96q, e96⟩ := hQ96
                              have N96 := Fr.app N93 N96q
                              have K97 : ∀ t, Steps p.tables e below (T96.setTop (mkF m 199 #[.val (.long q0), .second, .val (.int p1), .val (.int p2), .val (.int p3), .val (.ref b2), .val (.int v73), .val (.int v89), .val (.int v100)] [(.int (fClr (4 : Int32) v73 v100 f65))])) t → P0 t := by
                                intro t kt
                                refine K94 t ?_
                                show Steps p.tables e below (T93.setTop (mkF m 186 #[.val (.long q0), .second, .val (.int p1), .val (.int p2), .val (.int p3), .val (.ref b2), .val (.int v73), .val (.int v89), .val (.int v100)] [(.int (fClr (3 : Int32) v73 v100 f65))])) t
                                refine XS.ifNo X93.here hx rfl (hb hby at_186) rfl ((if0 _ _).trans (feq hc186_1).1) ?_
                                show Steps p.tables e below (T93.setTop (mkF m 189 #[.val (.long q0), .second, .val (.int p1), .val (.int p2), .val (.int p3), .val (.ref b2), .val (.int v73), .val (.int v89), .val (.int v100)] [])) t
                                refine XS.aload X93.here hx rfl (hb hby at_189) rfl rfl ?_
                                show Steps p.tables e below (T93.setTop (mkF m 191 #[.val (.long q0), .second, .val (.int p1), .val (.int p2), .val (.int p3), .val (.ref b2), .val (.int v73), .val (.int v89), .val (.int v100)] [(.ref b2)])) t
                                refine XS.iconst X93.here hx rfl (hb hby at_191) ?_
                                show Steps p.tables e below (T93.setTop (mkF m 192 #[.val (.long q0), .second, .val (.int p1), .val (.int p2), .val (.int p3), .val (.ref b2), .val (.int v73), .val (.int v89), .val (.int v100)] [(.int (4 : Int32)), (.ref b2)])) t
                                refine XS.iload X93.here hx rfl (hb hby at_192) rfl ?_
                                show Steps p.tables e below (T93.setTop (mkF m 194 #[.val (.long q0), .second, .val (.int p1), .val (.int p2), .val (.int p3), .val (.ref b2), .val (.int v73), .val (.int v89), .val (.int v100)] [(.int v73), (.int (4 : Int32)), (.ref b2)])) t
                                refine XS.iload X93.here hx rfl (hb hby at_194) rfl ?_
                                show Steps p.tables e below (T93.setTop (mkF m 196 #[.val (.long q0), .second, .val (.int p1), .val (.int p2), .val (.int p3), .val (.ref b2), .val (.int v73), .val (.int v89), .val (.int v100)] [(.int v100), (.int v73), (.int (4 : Int32)), (.ref b2)])) t
                                refine st96 _ ?_
                                exact kt
                              obtain ⟨j220_s0_7, T104, lc105, hj220_s0_7, X106, e107, N108, K109⟩ : ∃ (j220_s0_7 : Int32) (T104 : State) (lc105 : List Loc), j220_s0_7 = (if (fClr (4 : Int32) v73 v100 f65) = (0 : Int32) then (0 : Int32) else (if (fClr (5 : Int32) v73 v100 f65) = (0 : Int32) then (0 : Int32) else (1 : Int32))) ∧ Stand p l e room_1 s m #[(.long q0), (.int p1), (.int p2), (.int p3)] below meth c T104 lc105 1 6 ∧ T104.heap = h13 ∧ Fr n0 lc105 ∧ ∀ t, Steps p.tables e below (T104.setTop (mkF m 220 #[.val (.long q0), .second, .val (.int p1), .val (.int p2), .val (.int p3), .val (.ref b2), .val (.int v73), .val (.int v89), .val (.int v100)] [(.int j220_s0_7)])) t → P0 t := by
                                by_cases hc199_1 : (fClr (4 : Int32) v73 v100 f65) = (0 : Int32)
                                · have K98 : ∀ t, Steps p.tables e below (T96.setTop (mkF m 220 #[.val (.long q0), .second, .val (.int p1), .val (.int p2), .val (.int p3), .val (.ref b2), .val (.int v73), .val (.int v89), .val (.int v100)] [(.int (0 : Int32))])) t → P0 t := by
                                    intro t kt
                                    refine K97 t ?_
                                    show Steps p.tables e below (T96.setTop (mkF m 199 #[.val (.long q0), .second, .val (.int p1), .val (.int p2), .val (.int p3), .val (.ref b2), .val (.int v73), .val (.int v89), .val (.int v100)] [(.int (fClr (4 : Int32) v73 v100 f65))])) t
                                    refine XS.ifYes X96.here hx rfl (pc0 := 199) (pc' := 219) rfl (hb hby at_199) rfl ((if0 _ _).trans (teq hc199_1).1) (by decide) (by decide) ?_
                                    show Steps p.tables e below (T96.setTop (mkF m 219 #[.val (.long q0), .second, .val (.int p1), .val (.int p2), .val (.int p3), .val (.ref b2), .val (.int v73), .val (.int v89), .val (.int v100)] [])) t
                                    refine XS.iconst X96.here hx rfl (hb hby at_219) ?_
                                    exact kt
                                  exact ⟨_, _, _, (if_pos hc199_1).symm, X96, e96, N96, K98⟩
                                · obtain ⟨_, _, ⟨T99, L99, k99, n99⟩, -, X99, ⟨Lc99, hQ99, l99, y99, z99⟩, st99⟩ := Jvm.LawKit.callS X96 hx (y := (⟨"com/example/lowtide/lowtide/ColumnsEndPinLaw", "clear", "([BIII)Z"⟩ : MethodName)) hown (mvT hZ (hw _ (List.mem_of_getElem? (i := 10) rfl))) (mvT hZ (hw _ (List.mem_of_getElem? (i := 11) rfl))) (mvT hZ (hw _ (List.mem_of_getElem? (i := 3) rfl))) (mvT hZ (hw _ (List.mem_of_getElem? (i := 12) rfl))) (by decide) (backOf (W := 0) (rm_clr l Z a0 hw [] b2 (5 : Int32) v73 v100 f65 h13 n0 Z13 V13' (by decide)) hZ (hw _ (List.mem_of_getElem? (i := 12) rfl)) (hw _ (List.mem_of_getElem? (i := 3) rfl)) (by decide) (by decide)) (g := (mkF m 209 #[.val (.long q0), .second, .val (.int p1), .val (.int p2), .val (.int p3), .val (.ref b2), .val (.int v73), .val (.int v89), .val (.int v100)] [(.int v100), (.int v73), (.int (5 : Int32)), (.ref b2)])) rfl (by rw [hml]; rfl) (argsL := [(.ref b2), (.int (5 : Int32)), (.int v73), (.int v100)]) (rest := []) (lenOf law_pd2 rfl) rfl (by show 2 * 0 + _ ≤ _; exact Nat.le_of_eq rfl) (hb hby at_209) (fun _ _ => ⟨rfl, e96, (by decide : 1 + 0 ≤ _), (by decide : 6 + 0 ≤ _)⟩)
                                  dsimp only [Pt.U, Pt.locs, Pt.cells, Pt.slots] at X99 l99 y99 z99 st99 hQ99
                                  subst l99 y99 z99
                                  obtain ⟨rfl, N99q, e99⟩ := hQ99
                                  have N99 := Fr.app N96 N99q
                                  have K100 : ∀ t, Steps p.tables e below (T99.setTop (mkF m 212 #[.val (.long q0), .second, .val (.int p1), .val (.int p2), .val (.int p3), .val (.ref b2), .val (.int v73), .val (.int v89), .val (.int v100)] [(.int (fClr (5 : Int32) v73 v100 f65))])) t → P0 t := by
                                    intro t kt
                                    refine K97 t ?_
                                    show Steps p.tables e below (T96.setTop (mkF m 199 #[.val (.long q0), .second, .val (.int p1), .val (.int p2), .val (.int p3), .val (.ref b2), .val (.int v73), .val (.int v89), .val (.int v100)] [(.int (fClr (4 : Int32) v73 v100 f65))])) t
                                    refine XS.ifNo X96.here hx rfl (hb hby at_199) rfl ((if0 _ _).trans (feq hc199_1).1) ?_
                                    show Steps p.tables e below (T96.setTop (mkF m 202 #[.val (.long q0), .second, .val (.int p1), .val (.int p2), .val (.int p3), .val (.ref b2), .val (.int v73), .val (.int v89), .val (.int v100)] [])) t
                                    refine XS.aload X96.here hx rfl (hb hby at_202) rfl rfl ?_
                                    show Steps p.tables e below (T96.setTop (mkF m 204 #[.val (.long q0), .second, .val (.int p1), .val (.int p2), .val (.int p3), .val (.ref b2), .val (.int v73), .val (.int v89), .val (.int v100)] [(.ref b2)])) t
                                    refine XS.iconst X96.here hx rfl (hb hby at_204) ?_
                                    show Steps p.tables e below (T96.setTop (mkF m 205 #[.val (.long q0), .second, .val (.int p1), .val (.int p2), .val (.int p3), .val (.ref b2), .val (.int v73), .val (.int v89), .val (.int v100)] [(.int (5 : Int32)), (.ref b2)])) t
                                    refine XS.iload X96.here hx rfl (hb hby at_205) rfl ?_
                                    show Steps p.tables e below (T96.setTop (mkF m 207 #[.val (.long q0), .second, .val (.int p1), .val (.int p2), .val (.int p3), .val (.ref b2), .val (.int v73), .val (.int v89), .val (.int v100)] [(.int v73), (.int (5 : Int32)), (.ref b2)])) t
                                    refine XS.iload X96.here hx rfl (hb hby at_207) rfl ?_
                                    show Steps p.tables e below (T96.setTop (mkF m 209 #[.val (.long q0), .second, .val (.int p1), .val (.int p2), .val (.int p3), .val (.ref b2), .val (.int v73), .val (.int v89), .val (.int v100)] [(.int v100), (.int v73), (.int (5 : Int32)), (.ref b2)])) t
                                    refine st99 _ ?_
                                    exact kt
                                  obtain ⟨j220_s0_6, hj220_s0_6, K103⟩ : ∃ (j220_s0_6 : Int32), j220_s0_6 = (if (fClr (5 : Int32) v73 v100 f65) = (0 : Int32) then (0 : Int32) else (1 : Int32)) ∧ ∀ t, Steps p.tables e below (T99.setTop (mkF m 220 #[.val (.long q0), .second, .val (.int p1), .val (.int p2), .val (.int p3), .val (.ref b2), .val (.int v73), .val (.int v89), .val (.int v100)] [(.int j220_s0_6)])) t → P0 t := by
                                    by_cases hc212_1 : (fClr (5 : Int32) v73 v100 f65) = (0 : Int32)
                                    · have K101 : ∀ t, Steps p.tables e below (T99.setTop (mkF m 220 #[.val (.long q0), .second, .val (.int p1), .val (.int p2), .val (.int p3), .val (.ref b2), .val (.int v73), .val (.int v89), .val (.int v100)] [(.int (0 : Int32))])) t → P0 t := by
                                        intro t kt
                                        refine K100 t ?_
                                        show Steps p.tables e below (T99.setTop (mkF m 212 #[.val (.long q0), .second, .val (.int p1), .val (.int p2), .val (.int p3), .val (.ref b2), .val (.int v73), .val (.int v89), .val (.int v100)] [(.int (fClr (5 : Int32) v73 v100 f65))])) t
                                        refine XS.ifYes X99.here hx rfl (pc0 := 212) (pc' := 219) rfl (hb hby at_212) rfl ((if0 _ _).trans (teq hc212_1).1) (by decide) (by decide) ?_
                                        show Steps p.tables e below (T99.setTop (mkF m 219 #[.val (.long q0), .second, .val (.int p1), .val (.int p2), .val (.int p3), .val (.ref b2), .val (.int v73), .val (.int v89), .val (.int v100)] [])) t
                                        refine XS.iconst X99.here hx rfl (hb hby at_219) ?_
                                        exact kt
                                      exact ⟨_, (if_pos hc212_1).symm, K101⟩
                                    · have K102 : ∀ t, Steps p.tables e below (T99.setTop (mkF m 220 #[.val (.long q0), .second, .val (.int p1), .val (.int p2), .val (.int p3), .val (.ref b2), .val (.int v73), .val (.int v89), .val (.int v100)] [(.int (1 : Int32))])) t → P0 t := by
                                        intro t kt
                                        refine K100 t ?_
                                        show Steps p.tables e below (T99.setTop (mkF m 212 #[.val (.long q0), .second, .val (.int p1), .val (.int p2), .val (.int p3), .val (.ref b2), .val (.int v73), .val (.int v89), .val (.int v100)] [(.int (fClr (5 : Int32) v73 v100 f65))])) t
                                        refine XS.ifNo X99.here hx rfl (hb hby at_212) rfl ((if0 _ _).trans (feq hc212_1).1) ?_
                                        show Steps p.tables e below (T99.setTop (mkF m 215 #[.val (.long q0), .second, .val (.int p1), .val (.int p2), .val (.int p3), .val (.ref b2), .val (.int v73), .val (.int v89), .val (.int v100)] [])) t
                                        refine XS.iconst X99.here hx rfl (hb hby at_215) ?_
                                        show Steps p.tables e below (T99.setTop (mkF m 216 #[.val (.long q0), .second, .val (.int p1), .val (.int p2), .val (.int p3), .val (.ref b2), .val (.int v73), .val (.int v89), .val (.int v100)] [(.int (1 : Int32))])) t
                                        refine XS.goto X99.here hx rfl (pc0 := 216) (pc' := 220) rfl (hb hby at_216) (by decide) (by decide) ?_
                                        exact kt
                                      exact ⟨_, (if_neg hc212_1).symm, K102⟩
                                  subst hj220_s0_6
                                  exact ⟨_, _, _, (if_neg hc199_1).symm, X99, e99, N99, K103⟩
                              subst hj220_s0_7
                              exact ⟨_, _, _, (if_neg hc186_1).symm, X106, e107, N108, K109⟩
                          subst hj220_s0_8
                          exact ⟨_, _, _, (if_neg hc173_1).symm, X112, e113, N114, K115⟩
                      subst hj220_s0_9
                      exact ⟨_, _, _, (if_neg hc160_1).symm, X118, e119, N120, K121⟩
                  subst hj220_s0_10
                  exact ⟨_, _, _, (if_neg hc147_1).symm, X124, e125, N126, K127⟩
              subst hj220_s0_11
              exact ⟨_, _, _, _, _, _, (if_neg hc122).symm, X130, e131, N132, (hb hby at_220), K133⟩
          subst hjx122
          exact ⟨_, _, _, _, _, _, (if_neg hc113).symm, X136, e137, N138, hdx122, K139⟩
      subst hjx113
      exact ⟨_, _, _, _, _, _, (if_neg hc106).symm, X142, e143, N144, hdx113, K145⟩
  have hres : jx106 = 1 := own_plain q0 p1 p2 p3 f2 f15 f25 f35 f45 f55 f65 v73 v89 a b v100 jx106 hf2 hf15 hf25 hf35 hf45 hf55 hf65 hv73 hv89 hna hnb hab hb6 hv100 hjx106
  obtain ⟨fs, hr, hrun, hended, hW, hsame⟩ := X148.leave (v := some (.int (1 : Int32))) (fun h => by rw [Bd.returns] at h; cases h)
  refine ⟨_, _, ?_, hrun, hended, _, _, rfl, ?_, ⟨_, rfl⟩, hW, hsame.mono (by decide) (by decide)⟩
  · rw [hres] at K151
    have q := K151 _ (retN X148 hx (t := .boolean) Bd.returns (by simp) hdx106 hr)
    rw [hP0] at q; exact q
  · exact ⟨rfl, N150⟩
set_option maxRecDepth 65536 in
set_option maxHeartbeats 40000000 in
theorem comes_1 {Post : Tables → Env → Array Value → State → Outcome → State → Prop} (hpost : ∀ tb e args s v u, (limb_1_1.after args s (.returned v) u = true ∧ limb_1_2.after args s (.returned v) u = true ∧ True) → FrameEnd s (.returned v) u (Jvm.fieldLocs frame_1_writes args s ++ Jvm.arrayLocs frame_1_arrays args s ++ Jvm.staticLocs frame_1_statics s) 16 128 → Post tb e args s (.returned v) u) :
    ArmFor flags0 classFile x code maxLocals ret World_1 tables_1 room_1 Calls_1 rest_1 Pre_1 Post := by
  intro l hfl _ _ p e ha hc hk s m args below hf hA hF happ hP
  obtain ⟨hcalls, hrest, hpre⟩ := hP
  obtain ⟨-, -, -, hnamed, -, -, -, hat⟩ := (Spec.applies_iff hf).mp happ
  obtain ⟨hg, hn⟩ := and_e (Cond.before_iff.mp (show (Jvm.Cond.and given_1 narrow_1).before args s = true from hpre))
  obtain ⟨gc, gr0⟩ := and_e hg
  obtain ⟨ga0, gr1⟩ := and_e gr0
  obtain ⟨ga1, gr2⟩ := and_e gr1
  obtain ⟨ga2, gr3⟩ := and_e gr2
  obtain ⟨w0, w1, w2, w3, rfl⟩ : ∃ w0 w1 w2 w3 : Value, args = #[w0, w1, w2, w3] := by
    have hs : args.size = 4 := by simpa [Cond.value, given_1] using gc
    obtain ⟨L⟩ := args
    match L, hs with
    | [w0, w1, w2, w3], _ => exact ⟨w0, w1, w2, w3, rfl⟩
  have hw := fun d (hd : d ∈ tables_1) => atoms_spec (ws := Jvm.Cond.code x code maxLocals ret :: tables_1) hat d (List.mem_cons_of_mem _ hd)
  obtain ⟨i0, ei0⟩ := isL_v ga0
  obtain rfl : w0 = (.long i0) := Option.some.inj ei0
  obtain ⟨i1, ei1⟩ := is_v ga1
  obtain rfl : w1 = (.int i1) := Option.some.inj ei1
  obtain ⟨i2, ei2⟩ := is_v ga2
  obtain rfl : w2 = (.int i2) := Option.some.inj ei2
  obtain ⟨i3, ei3⟩ := is_v gr3
  obtain rfl : w3 = (.int i3) := Option.some.inj ei3
  obtain ⟨n, o, h1, h2, h3, _, L, rfl, ⟨rfl, N⟩, hq⟩ := rm_law l s _ hw tables_1 i0 i1 i2 i3 s.heap s.heap.size (Nat.le_refl _) p e ha hc hk s m _ below hf ((Spec.applies_iff_loose hf).mp happ).1 ⟨rfl, State.Warmed39.refl s, rfl⟩ trivial
  refine ⟨n, _, h1, h2, h3, hpost _ _ _ _ _ _ ⟨Cond.after_iff.mpr rfl, Cond.after_iff.mpr (eq_i res_at (Term.int_eval (1)) rfl), trivial⟩ ⟨hq.1, hq.2.1, (hq.2.2.sift fun y hy => Or.inr (N y hy)).mono (by decide) (by decide)⟩⟩
theorem main_1_1 : Claimed_1_1 := comes_1 fun _ _ _ _ _ _ h hF => ⟨h.1, hF⟩
theorem main_1_2 : Claimed_1_2 := comes_1 fun _ _ _ _ _ _ h hF => ⟨h.2.1, hF⟩
end Jvm.Pilot.@@N@@
namespace Jvm.Pilot.@@N@@
open Jvm Jvm.ClassFile Sem Op Lib Jvm.Free Jvm.Stand Jvm.Pilot.@@N@@.Jvm.D
/-! MADE BY PROGRAM (witnessworld.py) out of the Statement's table words and the real class files: 9 classes; the members and pool entries that the words name. The judged class is class 1, her method 1. -/
namespace start1
open Jvm.ClassFile
def u (s : String) : CpInfo := .utf8 (stringToUtf16 s)
/-- a pool by its gaps: so many unusable entries, then the entry; so many at the end -/
def gap : Nat → List CpInfo → List CpInfo
  | 0, r => r
  | n + 1, r => .unusable :: gap n r
def poolList (es : List (Nat × CpInfo)) (last : Nat) : List CpInfo := es.foldr (fun e r => gap e.1 (e.2 :: r)) (gap last [])
def pool (es : List (Nat × CpInfo)) (last : Nat) : Array CpInfo := ⟨poolList es last⟩
def fileOf (pool : Array CpInfo) (this : Nat) (attrs : Array Attribute := #[]) (ms : Array MethodInfo := #[]) (fl : Nat := 33) (sup : Nat := 0) (ifs : Array Nat := #[]) (fds : Array FieldInfo := #[]) : ClassFile where
  minorVersion := 0
  majorVersion := 65
  constantPool := pool
  accessFlags := fl
  thisClass := this
  superClass := sup
  interfaces := ifs
  fields := fds
  methods := ms
  attributes := attrs
def plain (name : String) (sup : Option ClassId) : Class where
  name := name
  kind := .ordinary
  loader := none
  accessFlags := 33
  super := sup
  interfaces := #[]
  cf := none
  fields := #[]
  methods := #[]
  instanceTypes := #[]
  staticTypes := #[]
  resolved := #[]
  callSites := []
  init := .initialized
  statics := none
  mirror := none

def pool0 : Array CpInfo := pool [(5, u "<init>"), (0, u "()V"), (1, .class_ 10), (1, u "java/lang/Object")] 113

def k0m0 : Method := { name := "<init>", desc := "()V", sig := { parameters := [], returnType := none }, accessFlags := 1, code := none }
/-- java/lang/Object -/
def k0 : Class := { plain "java/lang/Object" none with
  accessFlags := 33
  interfaces := #[]
  cf := some (fileOf pool0 8 #[] #[{ accessFlags := 1, nameIndex := 5, descriptorIndex := 6, attributes := #[] }] 33 0 #[] #[])
  fields := #[]
  methods := #[k0m0]
  instanceTypes := #[]
  staticTypes := #[]
  resolved := Array.replicate 124 none
  statics := none }

def pool1 : Array CpInfo := pool [(2, .class_ 4), (1, u "java/lang/Object"), (0, u "<init>"), (0, u "()V"), (0, .methodref 8 9), (0, .class_ 10), (0, .nameAndType 11 12), (0, u "com/example/lowtide/lowtide/ColumnsEndPinLaw"), (0, u "pick"), (0, u "(JII)B"), (0, .integer 2147483647), (0, .methodref 15 16), (0, .class_ 17), (0, .nameAndType 18 19), (0, u "com/example/lowtide/lowtide/Columns"), (0, u "end"), (0, u "([BII)I"), (0, .methodref 8 21), (0, .nameAndType 22 23), (0, u "clear"), (0, u "([BIII)Z"), (2, u "law"), (0, u "(JIII)Z")] 5

def k1m0 : Method := { name := "<init>", desc := "()V", sig := { parameters := [], returnType := none }, accessFlags := 2, code := none }
def k1c1 : Code := { maxStack := 6, maxLocals := 9, code := code, exceptionTable := #[], attributes := #[] }
def k1m1 : Method := { name := "law", desc := "(JIII)Z", sig := { parameters := [.long, .int, .int, .int], returnType := some .boolean }, accessFlags := 9, code := some k1c1 }
def k1c2 : Code := { maxStack := 4, maxLocals := 4, code := method_3_code, exceptionTable := #[], attributes := #[] }
def k1m2 : Method := { name := "pick", desc := "(JII)B", sig := { parameters := [.long, .int, .int], returnType := some .byte }, accessFlags := 10, code := some k1c2 }
def k1c3 : Code := { maxStack := 2, maxLocals := 4, code := method_4_code, exceptionTable := #[], attributes := #[] }
def k1m3 : Method := { name := "clear", desc := "([BIII)Z", sig := { parameters := [(.array .byte), .int, .int, .int], returnType := some .boolean }, accessFlags := 10, code := some k1c3 }
/-- com/example/lowtide/lowtide/ColumnsEndPinLaw -/
def k1 : Class := { plain "com/example/lowtide/lowtide/ColumnsEndPinLaw" (some 0) with
  accessFlags := 49
  interfaces := #[]
  cf := some (fileOf pool1 8 #[] #[{ accessFlags := 2, nameIndex := 5, descriptorIndex := 6, attributes := #[] }, { accessFlags := 9, nameIndex := 26, descriptorIndex := 27, attributes := #[] }, { accessFlags := 10, nameIndex := 11, descriptorIndex := 12, attributes := #[] }, { accessFlags := 10, nameIndex := 22, descriptorIndex := 23, attributes := #[] }] 49 2 #[] #[])
  fields := #[]
  methods := #[k1m0, k1m1, k1m2, k1m3]
  instanceTypes := #[]
  staticTypes := #[]
  resolved := Array.replicate 33 none
  statics := none }

def pool2 : Array CpInfo := pool [(2, .class_ 4), (1, u "java/lang/Object"), (0, u "<init>"), (0, u "()V"), (1, .class_ 10), (1, u "com/example/lowtide/lowtide/Columns"), (0, u "end"), (0, u "([BII)I")] 63

def k2m0 : Method := { name := "<init>", desc := "()V", sig := { parameters := [], returnType := none }, accessFlags := 2, code := none }
def k2c1 : Code := { maxStack := 2, maxLocals := 4, code := prog_2_method_3_code, exceptionTable := #[], attributes := #[] }
def k2m1 : Method := { name := "end", desc := "([BII)I", sig := { parameters := [(.array .byte), .int, .int], returnType := some .int }, accessFlags := 8, code := some k2c1 }
/-- com/example/lowtide/lowtide/Columns -/
def k2 : Class := { plain "com/example/lowtide/lowtide/Columns" (some 0) with
  accessFlags := 48
  interfaces := #[]
  cf := some (fileOf pool2 8 #[] #[{ accessFlags := 2, nameIndex := 5, descriptorIndex := 6, attributes := #[] }, { accessFlags := 8, nameIndex := 11, descriptorIndex := 12, attributes := #[] }] 48 2 #[] #[])
  fields := #[]
  methods := #[k2m0, k2m1]
  instanceTypes := #[]
  staticTypes := #[]
  resolved := Array.replicate 76 none
  statics := none }

def pool3 : Array CpInfo := pool [(1, u "java/lang/Cloneable"), (0, .class_ 1), (0, u "java/lang/Object"), (0, .class_ 3)] 3

/-- java/lang/Cloneable -/
def k3 : Class := { plain "java/lang/Cloneable" (some 0) with
  accessFlags := 1537
  interfaces := #[]
  cf := some (fileOf pool3 2 #[] #[] 1537 4 #[] #[])
  fields := #[]
  methods := #[]
  instanceTypes := #[]
  staticTypes := #[]
  resolved := Array.replicate 8 none
  statics := none }

def pool4 : Array CpInfo := pool [(1, u "java/io/Serializable"), (0, .class_ 1), (0, u "java/lang/Object"), (0, .class_ 3)] 3

/-- java/io/Serializable -/
def k4 : Class := { plain "java/io/Serializable" (some 0) with
  accessFlags := 1537
  interfaces := #[]
  cf := some (fileOf pool4 2 #[] #[] 1537 4 #[] #[])
  fields := #[]
  methods := #[]
  instanceTypes := #[]
  staticTypes := #[]
  resolved := Array.replicate 8 none
  statics := none }

/-- the primitive byte -/
def k5 : Class := { plain "byte" none with kind := .primitive 'B', accessFlags := 0x411 }
/-- [B -/
def k6 : Class := { plain "[B" (some 0) with kind := .array 5 .byte, interfaces := #[3, 4], accessFlags := 1041 }

/-- the primitive int -/
def k7 : Class := { plain "int" none with kind := .primitive 'I', accessFlags := 0x411 }
/-- [I -/
def k8 : Class := { plain "[I" (some 0) with kind := .array 7 .int, interfaces := #[3, 4], accessFlags := 1041 }

def heap : Heap := #[]
def classes : Array Class := #[k0, k1, k2, k3, k4, k5, k6, k7, k8]
def interned : List (Array UInt16 × Addr) := []
def slotsUsed : Nat := 0
def theMethod : MethodId := ⟨1, 1⟩
def args0 : Array Value := #[.long 5, .int 300, .int 7, .int 9]
def aboutOver (below : List Frame) : State where
  vm := { classes := classes, interned := interned.toArray }
  heap := heap
  slotsUsed := slotsUsed
  threads := #[{ frames := .invoking theMethod args0 :: below }]
def below0 : List Frame := [.native { method := ⟨0, 0⟩, args := #[] }]
def about1 : State := aboutOver below0
def p0 : Program := .bare "" "" ""
def e0 : Env := launch0.env 0 0 0
theorem w_frames : about1.frames = Frame.invoking theMethod args0 :: below0 := rfl
set_option maxRecDepth 65536 in
theorem w_args : argsFit about1.vm theMethod args0 = true := by decide +kernel
set_option maxRecDepth 65536 in
theorem w_heap : heapFits about1 = true := by decide +kernel
set_option maxRecDepth 65536 in
theorem w_runnable : about1.curStatus? = some .runnable := by decide +kernel
set_option maxRecDepth 65536 in
theorem w_alone : about1.alone = true := by decide +kernel
set_option maxRecDepth 65536 in
theorem w_named : about1.methodNamed? x = some theMethod := by decide +kernel
set_option maxRecDepth 65536 in
theorem w_hears : about1.hears theMethod below0 = true := by decide +kernel
set_option maxRecDepth 65536 in
theorem w_ripe : about1.ripe theMethod args0 below0 = true := by decide +kernel
theorem w_running : about1.status = .running := rfl
set_option maxRecDepth 65536 in
theorem w_room : about1.hasRoom e0.platform room_1 = true :=
  launch0.hasRoom_least _ room_1 (by decide +kernel) (by decide +kernel) (by decide +kernel) (by decide +kernel) (by decide +kernel) (by decide +kernel)
theorem allAtoms_all (ts : List Jvm.Cond) (a : Array Jvm.Value) (st : Jvm.State) : (allAtoms ts).before a st = ts.all (fun c => c.before a st) := by
  induction ts with
  | nil => rfl
  | cons c t ih =>
    show (Jvm.Cond.and c (allAtoms t)).before a st = _
    rw [Jvm.Cond.before_and, ih, List.all_cons]
def words1 : List Jvm.Cond := Jvm.Cond.code x code maxLocals ret :: tables_1
/-- a 'code' word, met by the world's own term for the bytes: nothing is compared byte by byte -/
theorem code_word {y : MethodName} {bytes : ByteArray} {mx : Nat} {rt : Option FieldType} {a : Array Value} {s : State} {m : MethodId} {meth : Method} {c : Code} (h1 : s.methodNamed? y = some m) (h2 : s.vm.method? m = some meth) (h3 : meth.code = some c) (h4 : c.code = bytes)
    (h5 : (c.maxLocals == mx && c.exceptionTable.isEmpty && decide (c.maxStack ≤ mostOperands) && decide (meth.sig.returnType = rt) && !meth.locks && decide (parseMethodDescriptor y.desc = some meth.sig)) = true) : (Jvm.Cond.code y bytes mx rt).before a s = true := by
  simp only [Bool.and_eq_true, beq_iff_eq, Bool.not_eq_true', decide_eq_true_eq] at h5
  obtain ⟨⟨⟨⟨⟨g1, g2⟩, g3⟩, g4⟩, g5⟩, g6⟩ := h5
  simp [Cond.before, Cond.holds, Cond.value, h1, h2, h3, h4, g1, g2, g3, g4, g5, g6]
def isCode : Jvm.Cond → Bool
  | .code _ _ _ _ => true
  | _ => false
theorem all_split {L : List Jvm.Cond} {P : Jvm.Cond → Bool} (h1 : L.all (fun c => isCode c || P c) = true) (h2 : ∀ c ∈ L.filter isCode, P c = true) : L.all P = true := by
  refine List.all_eq_true.mpr fun c hc => ?_
  have h := List.all_eq_true.mp h1 c hc
  rcases Bool.eq_false_or_eq_true (isCode c) with hi | hi
  · exact h2 c (List.mem_filter.mpr ⟨hc, hi⟩)
  · simpa [hi] using h
set_option maxRecDepth 65536 in
theorem w_c0 : (Jvm.Cond.code x code maxLocals ret).before args0 about1 = true := code_word (m := ⟨1, 1⟩) (meth := k1m1) (c := k1c1) (by decide +kernel) rfl rfl rfl (by decide +kernel)
set_option maxRecDepth 65536 in
theorem w_c1 : (Jvm.Cond.code ({ cls := "com/example/lowtide/lowtide/ColumnsEndPinLaw", name := "pick", desc := "(JII)B" } : Jvm.MethodName) method_3_code (4 : Nat) (Option.some Jvm.ClassFile.FieldType.byte)).before args0 about1 = true := code_word (m := ⟨1, 2⟩) (meth := k1m2) (c := k1c2) (by decide +kernel) rfl rfl rfl (by decide +kernel)
set_option maxRecDepth 65536 in
theorem w_c2 : (Jvm.Cond.code ({ cls := "com/example/lowtide/lowtide/Columns", name := "end", desc := "([BII)I" } : Jvm.MethodName) prog_2_method_3_code (4 : Nat) (Option.some Jvm.ClassFile.FieldType.int)).before args0 about1 = true := code_word (m := ⟨2, 1⟩) (meth := k2m1) (c := k2c1) (by decide +kernel) rfl rfl rfl (by decide +kernel)
set_option maxRecDepth 65536 in
theorem w_c3 : (Jvm.Cond.code ({ cls := "com/example/lowtide/lowtide/ColumnsEndPinLaw", name := "clear", desc := "([BIII)Z" } : Jvm.MethodName) method_4_code (4 : Nat) (Option.some Jvm.ClassFile.FieldType.boolean)).before args0 about1 = true := code_word (m := ⟨1, 3⟩) (meth := k1m3) (c := k1c3) (by decide +kernel) rfl rfl rfl (by decide +kernel)
def codes1 : List Jvm.Cond := [Jvm.Cond.code x code maxLocals ret, Jvm.Cond.code ({ cls := "com/example/lowtide/lowtide/ColumnsEndPinLaw", name := "pick", desc := "(JII)B" } : Jvm.MethodName) method_3_code (4 : Nat) (Option.some Jvm.ClassFile.FieldType.byte), Jvm.Cond.code ({ cls := "com/example/lowtide/lowtide/Columns", name := "end", desc := "([BII)I" } : Jvm.MethodName) prog_2_method_3_code (4 : Nat) (Option.some Jvm.ClassFile.FieldType.int), Jvm.Cond.code ({ cls := "com/example/lowtide/lowtide/ColumnsEndPinLaw", name := "clear", desc := "([BIII)Z" } : Jvm.MethodName) method_4_code (4 : Nat) (Option.some Jvm.ClassFile.FieldType.boolean)]
set_option maxRecDepth 65536 in
theorem codes_eq : words1.filter isCode = codes1 := rfl
theorem w_codes : ∀ c ∈ words1.filter isCode, c.before args0 about1 = true := by
  rw [codes_eq]
  intro c hc
  simp only [codes1, List.mem_cons, List.not_mem_nil, or_false] at hc
  rcases hc with rfl | rfl | rfl | rfl
  · exact w_c0
  · exact w_c1
  · exact w_c2
  · exact w_c3
set_option maxRecDepth 65536 in
theorem w_t1 : words1.all (fun c => isCode c || c.before args0 about1) = true := by decide +kernel
theorem w_tables : (allAtoms (Jvm.Cond.code x code maxLocals ret :: tables_1)).before args0 about1 = true := by
  rw [allAtoms_all]
  show words1.all (fun c => c.before args0 about1) = true
  refine all_split ?_ w_codes
  rw [w_t1]
set_option maxRecDepth 65536 in
theorem w_case : (Jvm.Cond.and given_1 narrow_1).before args0 about1 = true := by decide +kernel
theorem w_applies : (headSpec (Jvm.Cond.code x code maxLocals ret :: tables_1) room_1).applies x e0.platform about1 = true :=
  (Spec.applies_iff w_frames).mpr ⟨w_running, w_runnable, w_alone, w_named, w_hears, w_ripe, w_room, w_tables⟩
theorem atStart : AtStart classFile x code maxLocals ret World_1 tables_1 room_1 Calls_1 rest_1 Pre_1 launch0 p0 e0 about1 theMethod args0 below0 :=
  ⟨lists_1, trivial, launch0.admits_env _ _ _, launch0.least_env, fairChoices_fair.cas, fairChoices_fair.clock, w_frames, w_args, w_heap, w_applies, trivial, trivial, w_case⟩
end start1
theorem witness_1 : WitnessClaimed_1 := ⟨start1.p0, start1.e0, start1.about1, start1.theMethod, start1.args0, start1.below0, start1.atStart⟩
end Jvm.Pilot.@@N@@
