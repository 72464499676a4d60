import JvmDerived
import JvmDerived.Pilot.@@N@@Statement
import JvmDerived.Pilot.@@N@@Code
set_option linter.unusedVariables false
set_option linter.unusedSimpArgs false
namespace Jvm.Pilot.@@N@@
open Jvm Jvm.ClassFile Sem Op Lib Jvm.Free Jvm.Stand Jvm.LawKit Jvm.RoadKit Bundle Jvm.Pilot.@@N@@.Jvm.D
/-! my own small laws: arrays by a function of the place; returns -/
def IA (Z : State) (h : Heap) (a : Addr) (ty : FieldType) (n : Nat) (f : Nat → Int32) : Prop :=
  ∃ c : Cell, Arr Z h a c ty ∧ c.slots.size = n ∧ ∀ j, j < n → c.slots[j]? = some (.int (f j)) ∧ fits ty (.int (f j)) = true
def JA (Z : State) (h : Heap) (a : Addr) (n : Nat) (f : Nat → Int64) : Prop :=
  ∃ c : Cell, Arr Z h a c .long ∧ c.slots.size = n ∧ ∀ j, j < n → c.slots[j]? = some (.long (f j))
def upd (f : Nat → Int32) (i : Nat) (v : Int32) : Nat → Int32 := fun j => if j = i then v else f j
def updJ (f : Nat → Int64) (i : Nat) (v : Int64) : Nat → Int64 := fun j => if j = i then v else f j
def QP (r : Value) (h0 : Heap) (n0 : Nat) (v : Option Value) (h : Heap) (L : List Loc) : Prop := v = some r ∧ Fr n0 L ∧ h = h0
def QL (n0 : Nat) (v : Option Value) (h : Heap) (L : List Loc) : Prop := v = some (.int 1) ∧ Fr n0 L
section Own
variable {p : Program} {l : Launch} {e : Env} {R : Room} {s : State} {m : MethodId} {args : Array Value} {below : List Frame} {meth : Method} {c : Code} {T : State} {locs : List Loc} {cells slots : Nat} {Z : State} {h h' : Heap} {a b : Addr} {ty : FieldType} {n : Nat} {f : Nat → Int32} {fJ : Nat → Int64} {sl : Nat} {v : Value} {wl : List Addr}
theorem IA.lt (F : IA Z h a ty n f) : a < h.size := by obtain ⟨c, A, -⟩ := F; exact A.lt
theorem IA.ext (F : IA Z h a ty n f) (E : Ext h h') : IA Z h' a ty n f := by obtain ⟨c, A, r⟩ := F; exact ⟨c, A.ext E, r⟩
theorem IA.other (F : IA Z h b ty n f) (W : Wr h h' a sl v) (q : b ≠ a) : IA Z h' b ty n f := by obtain ⟨c, A, r⟩ := F; exact ⟨c, A.other W q, r⟩
theorem IA.keep (F : IA Z h a ty n f) (K : Keep h h' wl) (q : a ∉ wl) : IA Z h' a ty n f := by obtain ⟨c, A, r⟩ := F; exact ⟨c, ⟨K.2.1 a c A.1 q, A.2⟩, r⟩
theorem IA.new {k : ClassId} {z : Int32} (A : Arr Z h a (newA k ty z) ty) (hd : defaultValue ty = .int 0) (hf : fits ty (.int 0) = true) (hz : z.toNatClampNeg = n) : IA Z h a ty n (fun _ => 0) := by
  refine ⟨_, A, by rw [sz_new, hz], fun j hj => ⟨?_, hf⟩⟩
  have : j < z.toNatClampNeg := by rw [hz]; exact hj
  simp [newA, hd, this]
theorem IA.set {c : Cell} (A : Arr Z h a c ty) (S : c.slots.size = n) (H : ∀ j, j < n → c.slots[j]? = some (.int (f j)) ∧ fits ty (.int (f j)) = true) {x : Int32} (hv : fits ty (.int x) = true) {i : Nat} (W : Wr h h' a i (.int x)) (hi : i < n) : IA Z h' a ty n (upd f i x) := by
  refine ⟨_, A.same W, by rw [sz_set, S], fun j hj => ?_⟩
  unfold upd
  by_cases q : j = i
  · subst q; simp [Cell.setSlot, S, hi, hv]
  · have := H j hj
    rw [if_neg q]
    refine ⟨?_, this.2⟩
    rw [← this.1]
    show (c.slots.setIfInBounds i (.int x))[j]? = _
    exact Array.getElem?_setIfInBounds_ne (Ne.symm q)
theorem JA.lt (F : JA Z h a n fJ) : a < h.size := by obtain ⟨c, A, -⟩ := F; exact A.lt
theorem JA.ext (F : JA Z h a n fJ) (E : Ext h h') : JA Z h' a n fJ := by obtain ⟨c, A, r⟩ := F; exact ⟨c, A.ext E, r⟩
theorem JA.other (F : JA Z h b n fJ) (W : Wr h h' a sl v) (q : b ≠ a) : JA Z h' b n fJ := by obtain ⟨c, A, r⟩ := F; exact ⟨c, A.other W q, r⟩
theorem JA.keep (F : JA Z h a n fJ) (K : Keep h h' wl) (q : a ∉ wl) : JA Z h' a n fJ := by obtain ⟨c, A, r⟩ := F; exact ⟨c, ⟨K.2.1 a c A.1 q, A.2⟩, r⟩
theorem JA.new {k : ClassId} {z : Int32} (A : Arr Z h a (newA k .long z) .long) (hz : z.toNatClampNeg = n) : JA Z h a n (fun _ => 0) := by
  refine ⟨_, A, by rw [sz_new, hz], fun j hj => ?_⟩
  have : j < z.toNatClampNeg := by rw [hz]; exact hj
  simp [newA, defaultValue, this]
theorem JA.set {c : Cell} (A : Arr Z h a c .long) (S : c.slots.size = n) (H : ∀ j, j < n → c.slots[j]? = some (.long (fJ j))) {x : Int64} {i : Nat} (W : Wr h h' a i (.long x)) (hi : i < n) : JA Z h' a n (updJ fJ i x) := by
  refine ⟨_, A.same W, by rw [sz_set, S], fun j hj => ?_⟩
  unfold updJ
  by_cases q : j = i
  · subst q; simp [Cell.setSlot, S, hi]
  · rw [if_neg q, ← H j hj]
    show (c.slots.setIfInBounds i (.long x))[j]? = _
    exact Array.getElem?_setIfInBounds_ne (Ne.symm q)
theorem stBA (X : Stand p l e R s m args below meth c T locs cells slots) (hx : p.tables.exec = Jvm.exec) (hZ : Z.Warmed39 s.vm) (eT : T.heap = h) (V : IA Z h a .byte n f) {j x : Int32} (hj : ¬ (j < 0 ∨ n ≤ j.toNatClampNeg)) {g : JFrame} (hg : g.method = m) {rest : List Value} (hs : g.stack = .int x :: .int j :: .ref a :: rest) (hd : decode c.code g.pc = .ok (.bastore, 1)) :
    ∃ T' h', Stand p l e R s m args below meth c T' (locs ++ [⟨a, j.toNatClampNeg⟩]) cells slots ∧ T'.heap = h' ∧ (∃ sl v, Wr h h' a sl v) ∧ IA Z h' a .byte n (upd f j.toNatClampNeg (nar .byte x)) ∧ ∀ target, Steps p.tables e below (T'.setTop { g with pc := g.pc + 1, stack := rest }) target → Steps p.tables e below (T.setTop g) target := by
  obtain ⟨cl, A, S, H⟩ := V
  obtain ⟨T', h', X', e', W, st⟩ := stB X hx hZ eT A (j := j) (x := x) (by rw [S]; exact hj) hg hs hd
  exact ⟨T', h', X', e', ⟨_, _, W⟩, IA.set A S H (fits_nar_byte _) W (Nat.lt_of_not_le fun q => hj (Or.inr q)), st⟩
theorem stIA (X : Stand p l e R s m args below meth c T locs cells slots) (hx : p.tables.exec = Jvm.exec) (hZ : Z.Warmed39 s.vm) (eT : T.heap = h) (V : IA Z h a .int n f) {j x : Int32} (hj : ¬ (j < 0 ∨ n ≤ j.toNatClampNeg)) {g : JFrame} (hg : g.method = m) {rest : List Value} (hs : g.stack = .int x :: .int j :: .ref a :: rest) (hd : decode c.code g.pc = .ok (.iastore, 1)) :
    ∃ T' h', Stand p l e R s m args below meth c T' (locs ++ [⟨a, j.toNatClampNeg⟩]) cells slots ∧ T'.heap = h' ∧ (∃ sl v, Wr h h' a sl v) ∧ IA Z h' a .int n (upd f j.toNatClampNeg x) ∧ ∀ target, Steps p.tables e below (T'.setTop { g with pc := g.pc + 1, stack := rest }) target → Steps p.tables e below (T.setTop g) target := by
  obtain ⟨cl, A, S, H⟩ := V
  obtain ⟨T', h', X', e', W, st⟩ := stI X hx hZ eT A (j := j) (x := x) (by rw [S]; exact hj) hg hs hd
  exact ⟨T', h', X', e', ⟨_, _, W⟩, IA.set A S H rfl W (Nat.lt_of_not_le fun q => hj (Or.inr q)), st⟩
theorem stJA (X : Stand p l e R s m args below meth c T locs cells slots) (hx : p.tables.exec = Jvm.exec) (hZ : Z.Warmed39 s.vm) (eT : T.heap = h) (V : JA Z h a n fJ) {j : Int32} {x : Int64} (hj : ¬ (j < 0 ∨ n ≤ j.toNatClampNeg)) {g : JFrame} (hg : g.method = m) {rest : List Value} (hs : g.stack = .long x :: .int j :: .ref a :: rest) (hd : decode c.code g.pc = .ok (.lastore, 1)) :
    ∃ T' h', Stand p l e R s m args below meth c T' (locs ++ [⟨a, j.toNatClampNeg⟩]) cells slots ∧ T'.heap = h' ∧ (∃ sl v, Wr h h' a sl v) ∧ JA Z h' a n (updJ fJ j.toNatClampNeg x) ∧ ∀ target, Steps p.tables e below (T'.setTop { g with pc := g.pc + 1, stack := rest }) target → Steps p.tables e below (T.setTop g) target := by
  obtain ⟨cl, A, S, H⟩ := V
  obtain ⟨T', h', X', e', W, st⟩ := stJ X hx hZ eT A (j := j) (x := x) (by rw [S]; exact hj) hg hs hd
  exact ⟨T', h', X', e', ⟨_, _, W⟩, JA.set A S H W (Nat.lt_of_not_le fun q => hj (Or.inr q)), st⟩
theorem ldBA (X : Stand p l e R s m args below meth c T locs cells slots) (hx : p.tables.exec = Jvm.exec) (hZ : Z.Warmed39 s.vm) (eT : T.heap = h) (V : IA Z h a .byte n f) {j : Int32} (hj : ¬ (j < 0 ∨ n ≤ j.toNatClampNeg)) {g : JFrame} (hg : g.method = m) {rest : List Value} (hs : g.stack = .int j :: .ref a :: rest) (hd : decode c.code g.pc = .ok (.baload, 1)) :
    ∀ target, Steps p.tables e below (T.setTop { g with pc := g.pc + 1, stack := .int (f j.toNatClampNeg) :: rest }) target → Steps p.tables e below (T.setTop g) target := by
  obtain ⟨cl, A, S, H⟩ := V
  exact X.baloadBytes hx (by rw [eT]; exact A.1) (State.isArrayOf_alike hZ.alike A.2.1) A.2.2 (by rw [S]; exact hj) (H _ (Nat.lt_of_not_le fun q => hj (Or.inr q))).1 hg hs hd
theorem ldIA (X : Stand p l e R s m args below meth c T locs cells slots) (hx : p.tables.exec = Jvm.exec) (hZ : Z.Warmed39 s.vm) (eT : T.heap = h) (V : IA Z h a .int n f) {j : Int32} (hj : ¬ (j < 0 ∨ n ≤ j.toNatClampNeg)) {g : JFrame} (hg : g.method = m) {rest : List Value} (hs : g.stack = .int j :: .ref a :: rest) (hd : decode c.code g.pc = .ok (.iaload, 1)) :
    ∀ target, Steps p.tables e below (T.setTop { g with pc := g.pc + 1, stack := .int (f j.toNatClampNeg) :: rest }) target → Steps p.tables e below (T.setTop g) target := by
  obtain ⟨cl, A, S, H⟩ := V
  exact X.iaload hx (by rw [eT]; exact A.1) (State.isArrayOf_alike hZ.alike A.2.1) A.2.2 (by rw [S]; exact hj) (H _ (Nat.lt_of_not_le fun q => hj (Or.inr q))).1 hg hs hd
theorem ldJA (X : Stand p l e R s m args below meth c T locs cells slots) (hx : p.tables.exec = Jvm.exec) (hZ : Z.Warmed39 s.vm) (eT : T.heap = h) (V : JA Z h a n fJ) {j : Int32} (hj : ¬ (j < 0 ∨ n ≤ j.toNatClampNeg)) {g : JFrame} (hg : g.method = m) {rest : List Value} (hs : g.stack = .int j :: .ref a :: rest) (hd : decode c.code g.pc = .ok (.laload, 1)) :
    ∀ target, Steps p.tables e below (T.setTop { g with pc := g.pc + 1, stack := .long (fJ j.toNatClampNeg) :: rest }) target → Steps p.tables e below (T.setTop g) target := by
  obtain ⟨cl, A, S, H⟩ := V
  exact X.laload hx (by rw [eT]; exact A.1) (State.isArrayOf_alike hZ.alike A.2.1) A.2.2 (by rw [S]; exact hj) (H _ (Nat.lt_of_not_le fun q => hj (Or.inr q))) hg hs hd
theorem lnIA (X : Stand p l e R s m args below meth c T locs cells slots) (hx : p.tables.exec = Jvm.exec) (hZ : Z.Warmed39 s.vm) (eT : T.heap = h) (V : IA Z h a ty n f) {z : Int32} (hz : n.toInt32 = z) {g : JFrame} (hg : g.method = m) {rest : List Value} (hs : g.stack = .ref a :: rest) (hd : decode c.code g.pc = .ok (.arraylength, 1)) :
    ∀ target, Steps p.tables e below (T.setTop { g with pc := g.pc + 1, stack := .int z :: rest }) target → Steps p.tables e below (T.setTop g) target := by
  obtain ⟨cl, A, S, H⟩ := V
  intro t k
  refine X.arraylength hx (by rw [eT]; exact A.1) (State.isArrayOf_alike hZ.alike A.2.1) hg hs hd t ?_
  rw [S, hz]; exact k
theorem lnJA (X : Stand p l e R s m args below meth c T locs cells slots) (hx : p.tables.exec = Jvm.exec) (hZ : Z.Warmed39 s.vm) (eT : T.heap = h) (V : JA Z h a n fJ) {z : Int32} (hz : n.toInt32 = z) {g : JFrame} (hg : g.method = m) {rest : List Value} (hs : g.stack = .ref a :: rest) (hd : decode c.code g.pc = .ok (.arraylength, 1)) :
    ∀ target, Steps p.tables e below (T.setTop { g with pc := g.pc + 1, stack := .int z :: rest }) target → Steps p.tables e below (T.setTop g) target := by
  obtain ⟨cl, A, S, H⟩ := V
  intro t k
  refine X.arraylength hx (by rw [eT]; exact A.1) (State.isArrayOf_alike hZ.alike A.2.1) hg hs hd t ?_
  rw [S, hz]; exact k
theorem retI (X : Stand p l e R s m args below meth c T locs cells slots) (hx : p.tables.exec = Jvm.exec) {pc : Nat} {Ls : Array Slot} {z : Int32} {rest : List Value} (hret : meth.sig.returnType = some .int) (hd : decode c.code pc = .ok (.ireturn, 1)) {fs : List Frame}
    (hl : ∀ (f : JFrame) (acts : List Action), f.method = m → f.locked = none → f.entered = [] → (doReturn e (T.setTop f) acts (some (.int z))).1 = T.setFrames fs) : Steps p.tables e below (T.setTop (mkF m pc Ls (.int z :: rest))) (T.setFrames fs) :=
  retOut X hx hret rfl (Or.inl ⟨rfl, Or.inl rfl, z, rfl⟩) hd hl
end Own
/-! numbers -/
theorem own_small {v : Int32} (n : Nat) (h0 : 0 ≤ v.toInt) (h1 : v.toInt < n) : ∃ k : Fin n, v = Int32.ofNat k.val := by
  refine ⟨⟨v.toInt.toNat, by omega⟩, ?_⟩
  apply Int32.toInt_inj.mp
  have := v.toInt_lt
  show v.toInt = (Int32.ofNat v.toInt.toNat).toInt
  rw [Int32.toInt_ofNat_of_lt (by omega)]
  omega
theorem own_mask31 (x : Int32) : 0 ≤ (x &&& (2147483647 : Int32)).toInt ∧ (x &&& (2147483647 : Int32)).toInt = x.toInt % 2147483648 := by
  have h : (x &&& (2147483647 : Int32)).toInt = x.toInt % (2 ^ 31 : Nat) := c_mask x 2147483647 31 (by decide) (by decide)
  omega
theorem own_mod (x : Int32) (d : Int32) (n : Nat) (hd : d.toInt = n) (hn : 0 < n) : ∃ k : Fin n, (x &&& (2147483647 : Int32)) % d = Int32.ofNat k.val := by
  apply own_small
  · rw [Int32.toInt_mod]; exact Int.tmod_nonneg _ (own_mask31 x).1
  · rw [Int32.toInt_mod, hd]; exact Int.tmod_lt_of_pos _ (by omega)
theorem own_ofNat_toInt {n : Nat} (h : n < 2147483648) : (Int32.ofNat n).toInt = n := Int32.toInt_ofNat_of_lt (by omega)
theorem own_ofNat_lt {a b : Nat} (ha : a < 2147483648) (hb : b < 2147483648) : Int32.ofNat a < Int32.ofNat b ↔ a < b := by
  rw [Int32.lt_iff_toInt_lt, own_ofNat_toInt ha, own_ofNat_toInt hb]; omega
theorem own_ofNat_nat {n : Nat} (h : n < 2147483648) : (Int32.ofNat n).toNatClampNeg = n := by
  show (Int32.ofNat n).toInt.toNat = n
  rw [own_ofNat_toInt h]; omega
theorem own_ofNat_in {n len : Nat} (h : n < len) (hl : len ≤ 2147483648) : ¬ (Int32.ofNat n < 0 ∨ len ≤ (Int32.ofNat n).toNatClampNeg) := by
  rw [own_ofNat_nat (by omega), Int32.lt_iff_toInt_lt, own_ofNat_toInt (by omega)]
  have e : (0 : Int32).toInt = 0 := by decide
  rw [e]; omega
theorem own_ofNat_succ (n : Nat) : Int32.ofNat n + 1 = Int32.ofNat (n + 1) := by rw [Int32.ofNat_add]; rfl
def scan (f : Nat → Int32) : Nat → Nat → Nat
  | i, 0 => i
  | i, k + 1 => if f i = 9 then i else scan f (i + 1) k
theorem own_scan (f : Nat → Int32) : ∀ (k i : Nat), i ≤ scan f i k ∧ scan f i k ≤ i + k ∧ (scan f i k < i + k → f (scan f i k) = 9) ∧ ∀ j, i ≤ j → j < scan f i k → f j ≠ 9 := by
  intro k
  induction k with
  | zero => intro i; simp only [scan]; refine ⟨by omega, by omega, by omega, ?_⟩; intro j h1 h2; omega
  | succ k ih =>
    intro i
    by_cases h : f i = 9
    · rw [show scan f i (k + 1) = i from if_pos h]; refine ⟨by omega, by omega, fun _ => h, ?_⟩; intro j h1 h2; omega
    · rw [show scan f i (k + 1) = scan f (i + 1) k from if_neg h]
      obtain ⟨a, b, c, d⟩ := ih (i + 1)
      refine ⟨by omega, by omega, fun q => c (by omega), fun j h1 h2 => ?_⟩
      by_cases e : j = i
      · subst e; exact h
      · exact d j (by omega) h2
theorem own_rem {x d : Int32} (h : 0 < d.toInt) : 0 ≤ ((x &&& (2147483647 : Int32)) % d).toInt ∧ ((x &&& (2147483647 : Int32)) % d).toInt < d.toInt := by
  rw [Int32.toInt_mod]
  exact ⟨Int.tmod_nonneg _ (own_mask31 x).1, Int.tmod_lt_of_pos _ h⟩
theorem own_v7 {p2 v73 : Int32} (hv73 : v73 = ((p2 &&& (2147483647 : Int32)) % (7 : Int32))) : 0 ≤ v73.toInt ∧ v73.toInt < 7 := by
  have e : (7 : Int32).toInt = 7 := by decide
  have h := own_rem (x := p2) (d := 7) (by rw [e]; decide)
  rw [e] at h; subst hv73; exact h
theorem own_d7 {p2 v73 : Int32} (hv73 : v73 = ((p2 &&& (2147483647 : Int32)) % (7 : Int32))) : ((7 : Int32) - v73).toInt = 7 - v73.toInt := by
  have h := own_v7 hv73; have e : (7 : Int32).toInt = 7 := by decide
  have k := c_isub 7 v73; have r := rng32 (7 - v73); rw [e] at k; omega
theorem own_nz {p2 v73 : Int32} (hv73 : v73 = ((p2 &&& (2147483647 : Int32)) % (7 : Int32))) : ((7 : Int32) - v73) ≠ 0 := by
  intro q; have h := own_v7 hv73; have k := own_d7 hv73; rw [q] at k; have e : (0 : Int32).toInt = 0 := by decide
  omega
theorem own_ab {p2 p3 v73 v89 : Int32} (hv73 : v73 = ((p2 &&& (2147483647 : Int32)) % (7 : Int32))) (hv89 : v89 = (v73 + ((p3 &&& (2147483647 : Int32)) % ((7 : Int32) - v73)))) :
    ∃ a b : Nat, v73 = Int32.ofNat a ∧ v89 = Int32.ofNat b ∧ a ≤ b ∧ b ≤ 6 := by
  have h := own_v7 hv73; have k := own_d7 hv73
  have q := own_rem (x := p3) (d := (7 : Int32) - v73) (by omega)
  have s := c_iadd v73 ((p3 &&& (2147483647 : Int32)) % ((7 : Int32) - v73)); have r := rng32 (v73 + ((p3 &&& (2147483647 : Int32)) % ((7 : Int32) - v73)))
  rw [← hv89] at s r
  obtain ⟨a, ha⟩ := own_small (v := v73) 7 h.1 h.2
  obtain ⟨b, hb⟩ := own_small (v := v89) 7 (by omega) (by omega)
  have a7 := a.isLt; have b7 := b.isLt
  have ea : v73.toInt = a.val := by rw [ha]; exact own_ofNat_toInt (by omega)
  have eb : v89.toInt = b.val := by rw [hb]; exact own_ofNat_toInt (by omega)
  exact ⟨a.val, b.val, ha, hb, by omega, by omega⟩
theorem own_in129 {f65 : Nat → Int32} {a b : Nat} {v89 v100 : Int32} (hv100 : v100 = (Int32.ofNat (scan f65 a (b - a)))) (hb : v89 = Int32.ofNat b) (hab : a ≤ b) (hb6 : b ≤ 6) (hc : v100 < v89) : ¬ (v100 < 0 ∨ 6 ≤ v100.toNatClampNeg) := by
  obtain ⟨s1, s2, -⟩ := own_scan f65 (b - a) a
  rw [hv100, hb, own_ofNat_lt (by omega) (by omega)] at hc
  rw [hv100]; exact own_ofNat_in (by omega) (by decide)
def startf (f : Nat → Int32) (n : Nat) : Nat → Nat → Int32
  | 0, pos => Int32.ofNat pos
  | k + 1, pos => if scan f pos (n - pos) = n then -1 else startf f n k (scan f pos (n - pos) + 1)
theorem own_ab2 {p2 p3 v73 v86 v93 : Int32} (hv73 : v73 = ((p2 &&& (2147483647 : Int32)) % (7 : Int32))) (hv86 : v86 = ((p3 &&& (2147483647 : Int32)) % ((7 : Int32) - v73))) (hv93 : v93 = (v73 + v86)) :
    ∃ a b : Nat, v73 = Int32.ofNat a ∧ v93 = Int32.ofNat b ∧ a ≤ b ∧ b ≤ 6 := own_ab hv73 (by rw [hv93, hv86])
theorem own_col {p4 v102 : Int32} (h : v102 = ((p4 &&& (7 : Int32)) + (1 : Int32))) : ∃ col : Nat, v102 = Int32.ofNat col ∧ 1 ≤ col ∧ col ≤ 8 := by
  have a : (p4 &&& (7 : Int32)).toInt = p4.toInt % (2 ^ 3 : Nat) := c_mask p4 7 3 (by decide) (by decide)
  have k := c_iadd (p4 &&& 7) 1; have r := rng32 ((p4 &&& 7) + 1); have e : (1 : Int32).toInt = 1 := by decide
  rw [e] at k; rw [← h] at k r
  obtain ⟨c, hc⟩ := own_small (v := v102) 9 (by omega) (by omega)
  have c9 := c.isLt
  have ec : v102.toInt = c.val := by rw [hc]; exact own_ofNat_toInt (by omega)
  exact ⟨c.val, hc, by omega, by omega⟩
theorem bbb_d0 : decode method_3_code 0 = .ok (.iload_n 2, 1) := by decide +kernel
theorem bbb_d1 : decode method_3_code 1 = .ok (.iload_n 3, 1) := by decide +kernel
theorem bbb_d2 : decode method_3_code 2 = .ok (.ishr, 1) := by decide +kernel
theorem bbb_d3 : decode method_3_code 3 = .ok (.iconst 1, 1) := by decide +kernel
theorem bbb_d4 : decode method_3_code 4 = .ok (.iand, 1) := by decide +kernel
theorem bbb_d5 : decode method_3_code 5 = .ok (.ifCond .eq 6, 3) := by decide +kernel
theorem bbb_d8 : decode method_3_code 8 = .ok (.bipush 9, 2) := by decide +kernel
theorem bbb_d10 : decode method_3_code 10 = .ok (.ireturn, 1) := by decide +kernel
theorem bbb_d11 : decode method_3_code 11 = .ok (.lload_n 0, 1) := by decide +kernel
theorem bbb_d12 : decode method_3_code 12 = .ok (.bipush 8, 2) := by decide +kernel
theorem bbb_d14 : decode method_3_code 14 = .ok (.iload_n 3, 1) := by decide +kernel
theorem bbb_d15 : decode method_3_code 15 = .ok (.imul, 1) := by decide +kernel
theorem bbb_d16 : decode method_3_code 16 = .ok (.lshr, 1) := by decide +kernel
theorem bbb_d17 : decode method_3_code 17 = .ok (.l2i, 1) := by decide +kernel
theorem bbb_d18 : decode method_3_code 18 = .ok (.i2b, 1) := by decide +kernel
theorem bbb_d19 : decode method_3_code 19 = .ok (.ireturn, 1) := by decide +kernel
theorem bbb_pn : plainName "com/example/lowtide/lowtide/ColumnsStartPinLaw" = true := by first | (simp [plainName, overriddenIn]; done) | decide +kernel
theorem bbb_ef (m : MethodId) (x0 : Int64) (x1 : Int32) (x2 : Int32) : entryFrame m #[(.long x0), (.int x1), (.int x2)] 4 = mkF m 0 #[.val (.long x0), .second, .val (.int x1), .val (.int x2)] [] := by first | (simp [entryFrame, mkF, argsToLocals, Value.category]; done) | rfl
def fB (q0 : Int64) (p1 : Int32) (p2 : Int32) : Int32 :=
  let jx5 : Int32 := (if ((p1 >>> (p2 &&& 31)) &&& (1 : Int32)) = (0 : Int32) then (((q0 >>> (((8 : Int32) * p2) &&& 0x3f).toInt64).toInt32).toInt8.toInt32) else (9 : Int32))
  (nar .byte jx5)
set_option maxRecDepth 65536 in
set_option maxHeartbeats 40000000 in
theorem rm_bbb (l : Launch) (Z : State) (a0 : Array Value) (hw : ∀ d ∈ tables_1, d.before a0 Z = true) (ws : List Jvm.Cond) (q0 : Int64) (p1 : Int32) (p2 : Int32) (h0 : Heap) (n0 : Nat) (Z0 : n0 ≤ h0.size) :
    MetFree l (⟨"com/example/lowtide/lowtide/ColumnsStartPinLaw", "b", "(JII)B"⟩ : MethodName) (head1 (Jvm.Cond.code (⟨"com/example/lowtide/lowtide/ColumnsStartPinLaw", "b", "(JII)B"⟩ : MethodName) method_3_code 4 (some .byte) :: ws) ({ frames := 0, cells := 0, slots := 0, locals := 0 } : Room)) (fun a U => a = #[(.long q0), (.int p1), (.int p2)] ∧ Z.Warmed39 U.vm ∧ U.heap = h0) (fun _ _ _ _ _ => True) (fun _ U o U' => ∃ v L, o = .returned v ∧ QP (.int (fB q0 p1 p2)) h0 n0 v U'.heap L ∧ FrameEnd U o U' L ({ frames := 0, cells := 0, slots := 0, locals := 0 } : Room).cells ({ frames := 0, cells := 0, slots := 0, locals := 0 } : Room).slots) := by
  refine MetFree.of_bodySF (plainFor_of_name bbb_pn) hisR ?_
  intro p e s m args below meth c s₁ Bd hml0 hP hK
  obtain ⟨rfl, hZ, hh⟩ := hP
  have hx := Bd.exec
  have hby := Bd.bytes
  have hml : c.maxLocals = 4 := hml0
  have hown : s.vm.findClass "com/example/lowtide/lowtide/ColumnsStartPinLaw" = some m.cls := findClass_of_methodNamed Bd.named
  have hnm := (name_of_methodNamed Bd.named Bd.method).1
  have X0 : Stand p l e ({ frames := 0, cells := 0, slots := 0, locals := 0 } : Room) s m #[(.long q0), (.int p1), (.int p2)] below meth c s₁ [] 0 0 := Stand.of_body Bd
  have e0 : s₁.heap = h0 := by rw [← hh, Bd.state]; rfl
  have N0 := Fr.nil n0
  obtain ⟨P0, hP0⟩ : ∃ P0 : State → Prop, P0 = fun t => Steps p.tables e below (s₁.setTop (entryFrame m #[(.long q0), (.int p1), (.int p2)] 4)) t := ⟨_, rfl⟩
  have K0 : ∀ t, Steps p.tables e below (s₁.setTop (mkF m 0 #[.val (.long q0), .second, .val (.int p1), .val (.int p2)] [])) t → P0 t := by
    intro t k; rw [hP0]; exact castTop (bbb_ef m q0 p1 p2) k
  have K1 : ∀ t, Steps p.tables e below (s₁.setTop (mkF m 5 #[.val (.long q0), .second, .val (.int p1), .val (.int p2)] [(.int ((p1 >>> (p2 &&& 31)) &&& (1 : Int32)))])) t → P0 t := by
    intro t kt
    refine K0 t ?_
    show Steps p.tables e below (s₁.setTop (mkF m 0 #[.val (.long q0), .second, .val (.int p1), .val (.int p2)] [])) t
    refine XS.iloadN X0.here hx rfl (hb hby bbb_d0) rfl ?_
    show Steps p.tables e below (s₁.setTop (mkF m 1 #[.val (.long q0), .second, .val (.int p1), .val (.int p2)] [(.int p1)])) t
    refine XS.iloadN X0.here hx rfl (hb hby bbb_d1) rfl ?_
    show Steps p.tables e below (s₁.setTop (mkF m 2 #[.val (.long q0), .second, .val (.int p1), .val (.int p2)] [(.int p2), (.int p1)])) t
    refine XS.ishr X0.here hx rfl (hb hby bbb_d2) rfl ?_
    show Steps p.tables e below (s₁.setTop (mkF m 3 #[.val (.long q0), .second, .val (.int p1), .val (.int p2)] [(.int (p1 >>> (p2 &&& 31)))])) t
    refine XS.iconst X0.here hx rfl (hb hby bbb_d3) ?_
    show Steps p.tables e below (s₁.setTop (mkF m 4 #[.val (.long q0), .second, .val (.int p1), .val (.int p2)] [(.int (1 : Int32)), (.int (p1 >>> (p2 &&& 31)))])) t
    refine XS.iand X0.here hx rfl (hb hby bbb_d4) rfl ?_
    exact kt
  obtain ⟨jx5, pcx5, Lx5, Sx5, hjx5, hdx5, K4⟩ : ∃ (jx5 : Int32) (pcx5 : Nat) (Lx5 : Array Slot) (Sx5 : List Value), jx5 = (if ((p1 >>> (p2 &&& 31)) &&& (1 : Int32)) = (0 : Int32) then (((q0 >>> (((8 : Int32) * p2) &&& 0x3f).toInt64).toInt32).toInt8.toInt32) else (9 : Int32)) ∧ decode c.code pcx5 = .ok (.ireturn, 1) ∧ ∀ t, Steps p.tables e below (s₁.setTop (mkF m pcx5 Lx5 ((.int jx5) :: Sx5))) t → P0 t := by
    by_cases hc5 : ((p1 >>> (p2 &&& 31)) &&& (1 : Int32)) = (0 : Int32)
    · have K2 : ∀ t, Steps p.tables e below (s₁.setTop (mkF m 19 #[.val (.long q0), .second, .val (.int p1), .val (.int p2)] [(.int (((q0 >>> (((8 : Int32) * p2) &&& 0x3f).toInt64).toInt32).toInt8.toInt32))])) t → P0 t := by
        intro t kt
        refine K1 t ?_
        show Steps p.tables e below (s₁.setTop (mkF m 5 #[.val (.long q0), .second, .val (.int p1), .val (.int p2)] [(.int ((p1 >>> (p2 &&& 31)) &&& (1 : Int32)))])) t
        refine XS.ifYes X0.here hx rfl (pc0 := 5) (pc' := 11) rfl (hb hby bbb_d5) rfl ((if0 _ _).trans (teq hc5).1) (by decide) (by decide) ?_
        show Steps p.tables e below (s₁.setTop (mkF m 11 #[.val (.long q0), .second, .val (.int p1), .val (.int p2)] [])) t
        refine XS.lloadN X0.here hx rfl (hb hby bbb_d11) rfl ?_
        show Steps p.tables e below (s₁.setTop (mkF m 12 #[.val (.long q0), .second, .val (.int p1), .val (.int p2)] [(.long q0)])) t
        refine XS.bipush X0.here hx rfl (hb hby bbb_d12) ?_
        show Steps p.tables e below (s₁.setTop (mkF m 14 #[.val (.long q0), .second, .val (.int p1), .val (.int p2)] [(.int (8 : Int32)), (.long q0)])) t
        refine XS.iloadN X0.here hx rfl (hb hby bbb_d14) rfl ?_
        show Steps p.tables e below (s₁.setTop (mkF m 15 #[.val (.long q0), .second, .val (.int p1), .val (.int p2)] [(.int p2), (.int (8 : Int32)), (.long q0)])) t
        refine XS.imul X0.here hx rfl (hb hby bbb_d15) rfl ?_
        show Steps p.tables e below (s₁.setTop (mkF m 16 #[.val (.long q0), .second, .val (.int p1), .val (.int p2)] [(.int ((8 : Int32) * p2)), (.long q0)])) t
        refine XS.lshr X0.here hx rfl (hb hby bbb_d16) rfl ?_
        show Steps p.tables e below (s₁.setTop (mkF m 17 #[.val (.long q0), .second, .val (.int p1), .val (.int p2)] [(.long (q0 >>> (((8 : Int32) * p2) &&& 0x3f).toInt64))])) t
        refine XS.l2i X0.here hx rfl (hb hby bbb_d17) rfl ?_
        show Steps p.tables e below (s₁.setTop (mkF m 18 #[.val (.long q0), .second, .val (.int p1), .val (.int p2)] [(.int ((q0 >>> (((8 : Int32) * p2) &&& 0x3f).toInt64).toInt32))])) t
        refine XS.i2b X0.here hx rfl (hb hby bbb_d18) rfl ?_
        exact kt
      exact ⟨_, _, _, _, (if_pos hc5).symm, (hb hby bbb_d19), K2⟩
    · have K3 : ∀ t, Steps p.tables e below (s₁.setTop (mkF m 10 #[.val (.long q0), .second, .val (.int p1), .val (.int p2)] [(.int (9 : Int32))])) t → P0 t := by
        intro t kt
        refine K1 t ?_
        show Steps p.tables e below (s₁.setTop (mkF m 5 #[.val (.long q0), .second, .val (.int p1), .val (.int p2)] [(.int ((p1 >>> (p2 &&& 31)) &&& (1 : Int32)))])) t
        refine XS.ifNo X0.here hx rfl (hb hby bbb_d5) rfl ((if0 _ _).trans (feq hc5).1) ?_
        show Steps p.tables e below (s₁.setTop (mkF m 8 #[.val (.long q0), .second, .val (.int p1), .val (.int p2)] [])) t
        refine XS.bipush X0.here hx rfl (hb hby bbb_d8) ?_
        exact kt
      exact ⟨_, _, _, _, (if_neg hc5).symm, (hb hby bbb_d10), K3⟩
  obtain ⟨fs, hr, hrun, hended, hW, hsame⟩ := X0.leave (v := some (.int (nar .byte jx5))) (fun h => by rw [Bd.returns] at h; cases h)
  refine ⟨_, _, ?_, hrun, hended, _, _, rfl, ?_, ⟨_, rfl⟩, hW, hsame.mono (by decide) (by decide)⟩
  · skip
    have q := K4 _ (retN X0 hx (t := .byte) Bd.returns (by simp) hdx5 hr)
    rw [hP0] at q; exact q
  · show QP (.int (fB q0 p1 p2)) h0 n0 _ s₁.heap _
    rw [e0]
    subst hjx5
    exact ⟨rfl, N0, rfl⟩
theorem ttt_d0 : decode method_4_code 0 = .ok (.iload_n 1, 1) := by decide +kernel
theorem ttt_d1 : decode method_4_code 1 = .ok (.iload_n 2, 1) := by decide +kernel
theorem ttt_d2 : decode method_4_code 2 = .ok (.if_icmp .lt 18, 3) := by decide +kernel
theorem ttt_d5 : decode method_4_code 5 = .ok (.iload_n 1, 1) := by decide +kernel
theorem ttt_d6 : decode method_4_code 6 = .ok (.iload_n 3, 1) := by decide +kernel
theorem ttt_d7 : decode method_4_code 7 = .ok (.if_icmp .ge 13, 3) := by decide +kernel
theorem ttt_d10 : decode method_4_code 10 = .ok (.aload_n 0, 1) := by decide +kernel
theorem ttt_d11 : decode method_4_code 11 = .ok (.iload_n 1, 1) := by decide +kernel
theorem ttt_d12 : decode method_4_code 12 = .ok (.baload, 1) := by decide +kernel
theorem ttt_d13 : decode method_4_code 13 = .ok (.bipush 9, 2) := by decide +kernel
theorem ttt_d15 : decode method_4_code 15 = .ok (.if_icmp .ne 5, 3) := by decide +kernel
theorem ttt_d18 : decode method_4_code 18 = .ok (.iconst 1, 1) := by decide +kernel
theorem ttt_d19 : decode method_4_code 19 = .ok (.ireturn, 1) := by decide +kernel
theorem ttt_d20 : decode method_4_code 20 = .ok (.iconst 0, 1) := by decide +kernel
theorem ttt_d21 : decode method_4_code 21 = .ok (.ireturn, 1) := by decide +kernel
theorem ttt_pn : plainName "com/example/lowtide/lowtide/ColumnsStartPinLaw" = true := by first | (simp [plainName, overriddenIn]; done) | decide +kernel
theorem ttt_ef (m : MethodId) (x0 : Addr) (x1 : Int32) (x2 : Int32) (x3 : Int32) : entryFrame m #[(.ref x0), (.int x1), (.int x2), (.int x3)] 4 = mkF m 0 #[.val (.ref x0), .val (.int x1), .val (.int x2), .val (.int x3)] [] := by first | (simp [entryFrame, mkF, argsToLocals, Value.category]; done) | rfl
def fT (p1 : Int32) (p2 : Int32) (p3 : Int32) (fa : Nat → Int32) : Int32 :=
  let jx2 : Int32 := (if p1 < p2 then (0 : Int32) else (if p1 < p3 then (if (fa (p1).toNatClampNeg) = (9 : Int32) then (1 : Int32) else (0 : Int32)) else (0 : Int32)))
  jx2
set_option maxRecDepth 65536 in
set_option maxHeartbeats 40000000 in
theorem rm_ttt (l : Launch) (Z : State) (a0 : Array Value) (hw : ∀ d ∈ tables_1, d.before a0 Z = true) (ws : List Jvm.Cond) (r0 : Addr) (p1 : Int32) (p2 : Int32) (p3 : Int32) (fa : Nat → Int32) (h0 : Heap) (n0 : Nat) (Z0 : n0 ≤ h0.size) (Va : IA Z h0 r0 .byte 6 fa) (hin : ¬ (p1 < 0 ∨ 6 ≤ p1.toNatClampNeg)) :
    MetFree l (⟨"com/example/lowtide/lowtide/ColumnsStartPinLaw", "t", "([BIII)I"⟩ : MethodName) (head1 (Jvm.Cond.code (⟨"com/example/lowtide/lowtide/ColumnsStartPinLaw", "t", "([BIII)I"⟩ : MethodName) method_4_code 4 (some .int) :: ws) ({ frames := 0, cells := 0, slots := 0, locals := 0 } : Room)) (fun a U => a = #[(.ref r0), (.int p1), (.int p2), (.int p3)] ∧ Z.Warmed39 U.vm ∧ U.heap = h0) (fun _ _ _ _ _ => True) (fun _ U o U' => ∃ v L, o = .returned v ∧ QP (.int (fT p1 p2 p3 fa)) h0 n0 v U'.heap L ∧ FrameEnd U o U' L ({ frames := 0, cells := 0, slots := 0, locals := 0 } : Room).cells ({ frames := 0, cells := 0, slots := 0, locals := 0 } : Room).slots) := by
  refine MetFree.of_bodySF (plainFor_of_name ttt_pn) hisR ?_
  intro p e s m args below meth c s₁ Bd hml0 hP hK
  obtain ⟨rfl, hZ, hh⟩ := hP
  have hx := Bd.exec
  have hby := Bd.bytes
  have hml : c.maxLocals = 4 := hml0
  have hown : s.vm.findClass "com/example/lowtide/lowtide/ColumnsStartPinLaw" = some m.cls := findClass_of_methodNamed Bd.named
  have hnm := (name_of_methodNamed Bd.named Bd.method).1
  have X0 : Stand p l e ({ frames := 0, cells := 0, slots := 0, locals := 0 } : Room) s m #[(.ref r0), (.int p1), (.int p2), (.int p3)] below meth c s₁ [] 0 0 := Stand.of_body Bd
  have e0 : s₁.heap = h0 := by rw [← hh, Bd.state]; rfl
  have N0 := Fr.nil n0
  obtain ⟨P0, hP0⟩ : ∃ P0 : State → Prop, P0 = fun t => Steps p.tables e below (s₁.setTop (entryFrame m #[(.ref r0), (.int p1), (.int p2), (.int p3)] 4)) t := ⟨_, rfl⟩
  have K0 : ∀ t, Steps p.tables e below (s₁.setTop (mkF m 0 #[.val (.ref r0), .val (.int p1), .val (.int p2), .val (.int p3)] [])) t → P0 t := by
    intro t k; rw [hP0]; exact castTop (ttt_ef m r0 p1 p2 p3) k
  have K1 : ∀ t, Steps p.tables e below (s₁.setTop (mkF m 2 #[.val (.ref r0), .val (.int p1), .val (.int p2), .val (.int p3)] [(.int p2), (.int p1)])) t → P0 t := by
    intro t kt
    refine K0 t ?_
    show Steps p.tables e below (s₁.setTop (mkF m 0 #[.val (.ref r0), .val (.int p1), .val (.int p2), .val (.int p3)] [])) t
    refine XS.iloadN X0.here hx rfl (hb hby ttt_d0) rfl ?_
    show Steps p.tables e below (s₁.setTop (mkF m 1 #[.val (.ref r0), .val (.int p1), .val (.int p2), .val (.int p3)] [(.int p1)])) t
    refine XS.iloadN X0.here hx rfl (hb hby ttt_d1) rfl ?_
    exact kt
  obtain ⟨jx2, pcx2, Lx2, Sx2, hjx2, hdx2, K10⟩ : ∃ (jx2 : Int32) (pcx2 : Nat) (Lx2 : Array Slot) (Sx2 : List Value), jx2 = (if p1 < p2 then (0 : Int32) else (if p1 < p3 then (if (fa (p1).toNatClampNeg) = (9 : Int32) then (1 : Int32) else (0 : Int32)) else (0 : Int32))) ∧ decode c.code pcx2 = .ok (.ireturn, 1) ∧ ∀ t, Steps p.tables e below (s₁.setTop (mkF m pcx2 Lx2 ((.int jx2) :: Sx2))) t → P0 t := by
    by_cases hc2 : p1 < p2
    · have K2 : ∀ t, Steps p.tables e below (s₁.setTop (mkF m 21 #[.val (.ref r0), .val (.int p1), .val (.int p2), .val (.int p3)] [(.int (0 : Int32))])) t → P0 t := by
        intro t kt
        refine K1 t ?_
        show Steps p.tables e below (s₁.setTop (mkF m 2 #[.val (.ref r0), .val (.int p1), .val (.int p2), .val (.int p3)] [(.int p2), (.int p1)])) t
        refine XS.icmpYes X0.here hx rfl (pc0 := 2) (pc' := 20) rfl (hb hby ttt_d2) rfl (tlt hc2).1 (by decide) (by decide) ?_
        show Steps p.tables e below (s₁.setTop (mkF m 20 #[.val (.ref r0), .val (.int p1), .val (.int p2), .val (.int p3)] [])) t
        refine XS.iconst X0.here hx rfl (hb hby ttt_d20) ?_
        exact kt
      exact ⟨_, _, _, _, (if_pos hc2).symm, (hb hby ttt_d21), K2⟩
    · have K3 : ∀ t, Steps p.tables e below (s₁.setTop (mkF m 7 #[.val (.ref r0), .val (.int p1), .val (.int p2), .val (.int p3)] [(.int p3), (.int p1)])) t → P0 t := by
        intro t kt
        refine K1 t ?_
        show Steps p.tables e below (s₁.setTop (mkF m 2 #[.val (.ref r0), .val (.int p1), .val (.int p2), .val (.int p3)] [(.int p2), (.int p1)])) t
        refine XS.icmpNo X0.here hx rfl (hb hby ttt_d2) rfl (flt hc2).1 ?_
        show Steps p.tables e below (s₁.setTop (mkF m 5 #[.val (.ref r0), .val (.int p1), .val (.int p2), .val (.int p3)] [])) t
        refine XS.iloadN X0.here hx rfl (hb hby ttt_d5) rfl ?_
        show Steps p.tables e below (s₁.setTop (mkF m 6 #[.val (.ref r0), .val (.int p1), .val (.int p2), .val (.int p3)] [(.int p1)])) t
        refine XS.iloadN X0.here hx rfl (hb hby ttt_d6) rfl ?_
        exact kt
      obtain ⟨jx7, pcx7, Lx7, Sx7, hjx7, hdx7, K9⟩ : ∃ (jx7 : Int32) (pcx7 : Nat) (Lx7 : Array Slot) (Sx7 : List Value), jx7 = (if p1 < p3 then (if (fa (p1).toNatClampNeg) = (9 : Int32) then (1 : Int32) else (0 : Int32)) else (0 : Int32)) ∧ decode c.code pcx7 = .ok (.ireturn, 1) ∧ ∀ t, Steps p.tables e below (s₁.setTop (mkF m pcx7 Lx7 ((.int jx7) :: Sx7))) t → P0 t := by
        by_cases hc7 : p1 < p3
        · have K4 : ∀ t, Steps p.tables e below (s₁.setTop (mkF m 15 #[.val (.ref r0), .val (.int p1), .val (.int p2), .val (.int p3)] [(.int (9 : Int32)), (.int (fa (p1).toNatClampNeg))])) t → P0 t := by
            intro t kt
            refine K3 t ?_
            show Steps p.tables e below (s₁.setTop (mkF m 7 #[.val (.ref r0), .val (.int p1), .val (.int p2), .val (.int p3)] [(.int p3), (.int p1)])) t
            refine XS.icmpNo X0.here hx rfl (hb hby ttt_d7) rfl (tlt hc7).2.1 ?_
            show Steps p.tables e below (s₁.setTop (mkF m 10 #[.val (.ref r0), .val (.int p1), .val (.int p2), .val (.int p3)] [])) t
            refine XS.aloadN X0.here hx rfl (hb hby ttt_d10) rfl rfl ?_
            show Steps p.tables e below (s₁.setTop (mkF m 11 #[.val (.ref r0), .val (.int p1), .val (.int p2), .val (.int p3)] [(.ref r0)])) t
            refine XS.iloadN X0.here hx rfl (hb hby ttt_d11) rfl ?_
            show Steps p.tables e below (s₁.setTop (mkF m 12 #[.val (.ref r0), .val (.int p1), .val (.int p2), .val (.int p3)] [(.int p1), (.ref r0)])) t
            refine ldBA X0 hx hZ e0 Va (j := p1) hin (g := (mkF m 12 #[.val (.ref r0), .val (.int p1), .val (.int p2), .val (.int p3)] [(.int p1), (.ref r0)])) rfl rfl (hb hby ttt_d12) _ ?_
            show Steps p.tables e below (s₁.setTop (mkF m 13 #[.val (.ref r0), .val (.int p1), .val (.int p2), .val (.int p3)] [(.int (fa (p1).toNatClampNeg))])) t
            refine XS.bipush X0.here hx rfl (hb hby ttt_d13) ?_
            exact kt
          obtain ⟨jx15, pcx15, Lx15, Sx15, hjx15, hdx15, K7⟩ : ∃ (jx15 : Int32) (pcx15 : Nat) (Lx15 : Array Slot) (Sx15 : List Value), jx15 = (if (fa (p1).toNatClampNeg) = (9 : Int32) then (1 : Int32) else (0 : Int32)) ∧ decode c.code pcx15 = .ok (.ireturn, 1) ∧ ∀ t, Steps p.tables e below (s₁.setTop (mkF m pcx15 Lx15 ((.int jx15) :: Sx15))) t → P0 t := by
            by_cases hc15 : (fa (p1).toNatClampNeg) = (9 : Int32)
            · have K5 : ∀ t, Steps p.tables e below (s₁.setTop (mkF m 19 #[.val (.ref r0), .val (.int p1), .val (.int p2), .val (.int p3)] [(.int (1 : Int32))])) t → P0 t := by
                intro t kt
                refine K4 t ?_
                show Steps p.tables e below (s₁.setTop (mkF m 15 #[.val (.ref r0), .val (.int p1), .val (.int p2), .val (.int p3)] [(.int (9 : Int32)), (.int (fa (p1).toNatClampNeg))])) t
                refine XS.icmpNo X0.here hx rfl (hb hby ttt_d15) rfl (teq hc15).2 ?_
                show Steps p.tables e below (s₁.setTop (mkF m 18 #[.val (.ref r0), .val (.int p1), .val (.int p2), .val (.int p3)] [])) t
                refine XS.iconst X0.here hx rfl (hb hby ttt_d18) ?_
                exact kt
              exact ⟨_, _, _, _, (if_pos hc15).symm, (hb hby ttt_d19), K5⟩
            · have K6 : ∀ t, Steps p.tables e below (s₁.setTop (mkF m 21 #[.val (.ref r0), .val (.int p1), .val (.int p2), .val (.int p3)] [(.int (0 : Int32))])) t → P0 t := by
                intro t kt
                refine K4 t ?_
                show Steps p.tables e below (s₁.setTop (mkF m 15 #[.val (.ref r0), .val (.int p1), .val (.int p2), .val (.int p3)] [(.int (9 : Int32)), (.int (fa (p1).toNatClampNeg))])) t
                refine XS.icmpYes X0.here hx rfl (pc0 := 15) (pc' := 20) rfl (hb hby ttt_d15) rfl (feq hc15).2 (by decide) (by decide) ?_
                show Steps p.tables e below (s₁.setTop (mkF m 20 #[.val (.ref r0), .val (.int p1), .val (.int p2), .val (.int p3)] [])) t
                refine XS.iconst X0.here hx rfl (hb hby ttt_d20) ?_
                exact kt
              exact ⟨_, _, _, _, (if_neg hc15).symm, (hb hby ttt_d21), K6⟩
          subst hjx15
          exact ⟨_, _, _, _, (if_pos hc7).symm, hdx15, K7⟩
        · have K8 : ∀ t, Steps p.tables e below (s₁.setTop (mkF m 21 #[.val (.ref r0), .val (.int p1), .val (.int p2), .val (.int p3)] [(.int (0 : Int32))])) t → P0 t := by
            intro t kt
            refine K3 t ?_
            show Steps p.tables e below (s₁.setTop (mkF m 7 #[.val (.ref r0), .val (.int p1), .val (.int p2), .val (.int p3)] [(.int p3), (.int p1)])) t
            refine XS.icmpYes X0.here hx rfl (pc0 := 7) (pc' := 20) rfl (hb hby ttt_d7) rfl (flt hc7).2.1 (by decide) (by decide) ?_
            show Steps p.tables e below (s₁.setTop (mkF m 20 #[.val (.ref r0), .val (.int p1), .val (.int p2), .val (.int p3)] [])) t
            refine XS.iconst X0.here hx rfl (hb hby ttt_d20) ?_
            exact kt
          exact ⟨_, _, _, _, (if_neg hc7).symm, (hb hby ttt_d21), K8⟩
      subst hjx7
      exact ⟨_, _, _, _, (if_neg hc2).symm, hdx7, K9⟩
  obtain ⟨fs, hr, hrun, hended, hW, hsame⟩ := X0.leave (v := some (.int jx2)) (fun h => by rw [Bd.returns] at h; cases h)
  refine ⟨_, _, ?_, hrun, hended, _, _, rfl, ?_, ⟨_, rfl⟩, hW, hsame.mono (by decide) (by decide)⟩
  · skip
    have q := K10 _ (retI X0 hx Bd.returns hdx2 hr)
    rw [hP0] at q; exact q
  · show QP (.int (fT p1 p2 p3 fa)) h0 n0 _ s₁.heap _
    rw [e0]
    subst hjx2
    exact ⟨rfl, N0, rfl⟩
theorem pck_d0 : decode method_5_code 0 = .ok (.iload_n 1, 1) := by decide +kernel
theorem pck_d1 : decode method_5_code 1 = .ok (.iconst 1, 1) := by decide +kernel
theorem pck_d2 : decode method_5_code 2 = .ok (.if_icmp .ne 17, 3) := by decide +kernel
theorem pck_d5 : decode method_5_code 5 = .ok (.iload_n 2, 1) := by decide +kernel
theorem pck_d6 : decode method_5_code 6 = .ok (.iconst 1, 1) := by decide +kernel
theorem pck_d7 : decode method_5_code 7 = .ok (.iadd, 1) := by decide +kernel
theorem pck_d8 : decode method_5_code 8 = .ok (.iload_n 3, 1) := by decide +kernel
theorem pck_d9 : decode method_5_code 9 = .ok (.iconst 1, 1) := by decide +kernel
theorem pck_d10 : decode method_5_code 10 = .ok (.isub, 1) := by decide +kernel
theorem pck_d11 : decode method_5_code 11 = .ok (.if_icmp .ne 8, 3) := by decide +kernel
theorem pck_d14 : decode method_5_code 14 = .ok (.iload 4, 2) := by decide +kernel
theorem pck_d16 : decode method_5_code 16 = .ok (.iconst 1, 1) := by decide +kernel
theorem pck_d17 : decode method_5_code 17 = .ok (.iadd, 1) := by decide +kernel
theorem pck_d18 : decode method_5_code 18 = .ok (.ireturn, 1) := by decide +kernel
theorem pck_d19 : decode method_5_code 19 = .ok (.iload_n 0, 1) := by decide +kernel
theorem pck_d20 : decode method_5_code 20 = .ok (.ireturn, 1) := by decide +kernel
theorem pck_pn : plainName "com/example/lowtide/lowtide/ColumnsStartPinLaw" = true := by first | (simp [plainName, overriddenIn]; done) | decide +kernel
theorem pck_ef (m : MethodId) (x0 : Int32) (x1 : Int32) (x2 : Int32) (x3 : Int32) (x4 : Int32) : entryFrame m #[(.int x0), (.int x1), (.int x2), (.int x3), (.int x4)] 5 = mkF m 0 #[.val (.int x0), .val (.int x1), .val (.int x2), .val (.int x3), .val (.int x4)] [] := by first | (simp [entryFrame, mkF, argsToLocals, Value.category]; done) | rfl
def fPk (p0 : Int32) (p1 : Int32) (p2 : Int32) (p3 : Int32) (p4 : Int32) : Int32 :=
  let jx2 : Int32 := (if p1 = (1 : Int32) then (if (p2 + (1 : Int32)) = (p3 - (1 : Int32)) then (p4 + (1 : Int32)) else p0) else p0)
  jx2
set_option maxRecDepth 65536 in
set_option maxHeartbeats 40000000 in
theorem rm_pck (l : Launch) (Z : State) (a0 : Array Value) (hw : ∀ d ∈ tables_1, d.before a0 Z = true) (ws : List Jvm.Cond) (p0 : Int32) (p1 : Int32) (p2 : Int32) (p3 : Int32) (p4 : Int32) (h0 : Heap) (n0 : Nat) (Z0 : n0 ≤ h0.size) :
    MetFree l (⟨"com/example/lowtide/lowtide/ColumnsStartPinLaw", "pick", "(IIIII)I"⟩ : MethodName) (head1 (Jvm.Cond.code (⟨"com/example/lowtide/lowtide/ColumnsStartPinLaw", "pick", "(IIIII)I"⟩ : MethodName) method_5_code 5 (some .int) :: ws) ({ frames := 0, cells := 0, slots := 0, locals := 0 } : Room)) (fun a U => a = #[(.int p0), (.int p1), (.int p2), (.int p3), (.int p4)] ∧ Z.Warmed39 U.vm ∧ U.heap = h0) (fun _ _ _ _ _ => True) (fun _ U o U' => ∃ v L, o = .returned v ∧ QP (.int (fPk p0 p1 p2 p3 p4)) h0 n0 v U'.heap L ∧ FrameEnd U o U' L ({ frames := 0, cells := 0, slots := 0, locals := 0 } : Room).cells ({ frames := 0, cells := 0, slots := 0, locals := 0 } : Room).slots) := by
  refine MetFree.of_bodySF (plainFor_of_name pck_pn) hisR ?_
  intro p e s m args below meth c s₁ Bd hml0 hP hK
  obtain ⟨rfl, hZ, hh⟩ := hP
  have hx := Bd.exec
  have hby := Bd.bytes
  have hml : c.maxLocals = 5 := hml0
  have hown : s.vm.findClass "com/example/lowtide/lowtide/ColumnsStartPinLaw" = some m.cls := findClass_of_methodNamed Bd.named
  have hnm := (name_of_methodNamed Bd.named Bd.method).1
  have X0 : Stand p l e ({ frames := 0, cells := 0, slots := 0, locals := 0 } : Room) s m #[(.int p0), (.int p1), (.int p2), (.int p3), (.int p4)] below meth c s₁ [] 0 0 := Stand.of_body Bd
  have e0 : s₁.heap = h0 := by rw [← hh, Bd.state]; rfl
  have N0 := Fr.nil n0
  obtain ⟨P0, hP0⟩ : ∃ P0 : State → Prop, P0 = fun t => Steps p.tables e below (s₁.setTop (entryFrame m #[(.int p0), (.int p1), (.int p2), (.int p3), (.int p4)] 5)) t := ⟨_, rfl⟩
  have K0 : ∀ t, Steps p.tables e below (s₁.setTop (mkF m 0 #[.val (.int p0), .val (.int p1), .val (.int p2), .val (.int p3), .val (.int p4)] [])) t → P0 t := by
    intro t k; rw [hP0]; exact castTop (pck_ef m p0 p1 p2 p3 p4) k
  have K1 : ∀ t, Steps p.tables e below (s₁.setTop (mkF m 2 #[.val (.int p0), .val (.int p1), .val (.int p2), .val (.int p3), .val (.int p4)] [(.int (1 : Int32)), (.int p1)])) t → P0 t := by
    intro t kt
    refine K0 t ?_
    show Steps p.tables e below (s₁.setTop (mkF m 0 #[.val (.int p0), .val (.int p1), .val (.int p2), .val (.int p3), .val (.int p4)] [])) t
    refine XS.iloadN X0.here hx rfl (hb hby pck_d0) rfl ?_
    show Steps p.tables e below (s₁.setTop (mkF m 1 #[.val (.int p0), .val (.int p1), .val (.int p2), .val (.int p3), .val (.int p4)] [(.int p1)])) t
    refine XS.iconst X0.here hx rfl (hb hby pck_d1) ?_
    exact kt
  obtain ⟨jx2, pcx2, Lx2, Sx2, hjx2, hdx2, K7⟩ : ∃ (jx2 : Int32) (pcx2 : Nat) (Lx2 : Array Slot) (Sx2 : List Value), jx2 = (if p1 = (1 : Int32) then (if (p2 + (1 : Int32)) = (p3 - (1 : Int32)) then (p4 + (1 : Int32)) else p0) else p0) ∧ decode c.code pcx2 = .ok (.ireturn, 1) ∧ ∀ t, Steps p.tables e below (s₁.setTop (mkF m pcx2 Lx2 ((.int jx2) :: Sx2))) t → P0 t := by
    by_cases hc2 : p1 = (1 : Int32)
    · have K2 : ∀ t, Steps p.tables e below (s₁.setTop (mkF m 11 #[.val (.int p0), .val (.int p1), .val (.int p2), .val (.int p3), .val (.int p4)] [(.int (p3 - (1 : Int32))), (.int (p2 + (1 : Int32)))])) t → P0 t := by
        intro t kt
        refine K1 t ?_
        show Steps p.tables e below (s₁.setTop (mkF m 2 #[.val (.int p0), .val (.int p1), .val (.int p2), .val (.int p3), .val (.int p4)] [(.int (1 : Int32)), (.int p1)])) t
        refine XS.icmpNo X0.here hx rfl (hb hby pck_d2) rfl (teq hc2).2 ?_
        show Steps p.tables e below (s₁.setTop (mkF m 5 #[.val (.int p0), .val (.int p1), .val (.int p2), .val (.int p3), .val (.int p4)] [])) t
        refine XS.iloadN X0.here hx rfl (hb hby pck_d5) rfl ?_
        show Steps p.tables e below (s₁.setTop (mkF m 6 #[.val (.int p0), .val (.int p1), .val (.int p2), .val (.int p3), .val (.int p4)] [(.int p2)])) t
        refine XS.iconst X0.here hx rfl (hb hby pck_d6) ?_
        show Steps p.tables e below (s₁.setTop (mkF m 7 #[.val (.int p0), .val (.int p1), .val (.int p2), .val (.int p3), .val (.int p4)] [(.int (1 : Int32)), (.int p2)])) t
        refine XS.iadd X0.here hx rfl (hb hby pck_d7) rfl ?_
        show Steps p.tables e below (s₁.setTop (mkF m 8 #[.val (.int p0), .val (.int p1), .val (.int p2), .val (.int p3), .val (.int p4)] [(.int (p2 + (1 : Int32)))])) t
        refine XS.iloadN X0.here hx rfl (hb hby pck_d8) rfl ?_
        show Steps p.tables e below (s₁.setTop (mkF m 9 #[.val (.int p0), .val (.int p1), .val (.int p2), .val (.int p3), .val (.int p4)] [(.int p3), (.int (p2 + (1 : Int32)))])) t
        refine XS.iconst X0.here hx rfl (hb hby pck_d9) ?_
        show Steps p.tables e below (s₁.setTop (mkF m 10 #[.val (.int p0), .val (.int p1), .val (.int p2), .val (.int p3), .val (.int p4)] [(.int (1 : Int32)), (.int p3), (.int (p2 + (1 : Int32)))])) t
        refine XS.isub X0.here hx rfl (hb hby pck_d10) rfl ?_
        exact kt
      obtain ⟨jx11, pcx11, Lx11, Sx11, hjx11, hdx11, K5⟩ : ∃ (jx11 : Int32) (pcx11 : Nat) (Lx11 : Array Slot) (Sx11 : List Value), jx11 = (if (p2 + (1 : Int32)) = (p3 - (1 : Int32)) then (p4 + (1 : Int32)) else p0) ∧ decode c.code pcx11 = .ok (.ireturn, 1) ∧ ∀ t, Steps p.tables e below (s₁.setTop (mkF m pcx11 Lx11 ((.int jx11) :: Sx11))) t → P0 t := by
        by_cases hc11 : (p2 + (1 : Int32)) = (p3 - (1 : Int32))
        · have K3 : ∀ t, Steps p.tables e below (s₁.setTop (mkF m 18 #[.val (.int p0), .val (.int p1), .val (.int p2), .val (.int p3), .val (.int p4)] [(.int (p4 + (1 : Int32)))])) t → P0 t := by
            intro t kt
            refine K2 t ?_
            show Steps p.tables e below (s₁.setTop (mkF m 11 #[.val (.int p0), .val (.int p1), .val (.int p2), .val (.int p3), .val (.int p4)] [(.int (p3 - (1 : Int32))), (.int (p2 + (1 : Int32)))])) t
            refine XS.icmpNo X0.here hx rfl (hb hby pck_d11) rfl (teq hc11).2 ?_
            show Steps p.tables e below (s₁.setTop (mkF m 14 #[.val (.int p0), .val (.int p1), .val (.int p2), .val (.int p3), .val (.int p4)] [])) t
            refine XS.iload X0.here hx rfl (hb hby pck_d14) rfl ?_
            show Steps p.tables e below (s₁.setTop (mkF m 16 #[.val (.int p0), .val (.int p1), .val (.int p2), .val (.int p3), .val (.int p4)] [(.int p4)])) t
            refine XS.iconst X0.here hx rfl (hb hby pck_d16) ?_
            show Steps p.tables e below (s₁.setTop (mkF m 17 #[.val (.int p0), .val (.int p1), .val (.int p2), .val (.int p3), .val (.int p4)] [(.int (1 : Int32)), (.int p4)])) t
            refine XS.iadd X0.here hx rfl (hb hby pck_d17) rfl ?_
            exact kt
          exact ⟨_, _, _, _, (if_pos hc11).symm, (hb hby pck_d18), K3⟩
        · have K4 : ∀ t, Steps p.tables e below (s₁.setTop (mkF m 20 #[.val (.int p0), .val (.int p1), .val (.int p2), .val (.int p3), .val (.int p4)] [(.int p0)])) t → P0 t := by
            intro t kt
            refine K2 t ?_
            show Steps p.tables e below (s₁.setTop (mkF m 11 #[.val (.int p0), .val (.int p1), .val (.int p2), .val (.int p3), .val (.int p4)] [(.int (p3 - (1 : Int32))), (.int (p2 + (1 : Int32)))])) t
            refine XS.icmpYes X0.here hx rfl (pc0 := 11) (pc' := 19) rfl (hb hby pck_d11) rfl (feq hc11).2 (by decide) (by decide) ?_
            show Steps p.tables e below (s₁.setTop (mkF m 19 #[.val (.int p0), .val (.int p1), .val (.int p2), .val (.int p3), .val (.int p4)] [])) t
            refine XS.iloadN X0.here hx rfl (hb hby pck_d19) rfl ?_
            exact kt
          exact ⟨_, _, _, _, (if_neg hc11).symm, (hb hby pck_d20), K4⟩
      subst hjx11
      exact ⟨_, _, _, _, (if_pos hc2).symm, hdx11, K5⟩
    · have K6 : ∀ t, Steps p.tables e below (s₁.setTop (mkF m 20 #[.val (.int p0), .val (.int p1), .val (.int p2), .val (.int p3), .val (.int p4)] [(.int p0)])) t → P0 t := by
        intro t kt
        refine K1 t ?_
        show Steps p.tables e below (s₁.setTop (mkF m 2 #[.val (.int p0), .val (.int p1), .val (.int p2), .val (.int p3), .val (.int p4)] [(.int (1 : Int32)), (.int p1)])) t
        refine XS.icmpYes X0.here hx rfl (pc0 := 2) (pc' := 19) rfl (hb hby pck_d2) rfl (feq hc2).2 (by decide) (by decide) ?_
        show Steps p.tables e below (s₁.setTop (mkF m 19 #[.val (.int p0), .val (.int p1), .val (.int p2), .val (.int p3), .val (.int p4)] [])) t
        refine XS.iloadN X0.here hx rfl (hb hby pck_d19) rfl ?_
        exact kt
      exact ⟨_, _, _, _, (if_neg hc2).symm, (hb hby pck_d20), K6⟩
  obtain ⟨fs, hr, hrun, hended, hW, hsame⟩ := X0.leave (v := some (.int jx2)) (fun h => by rw [Bd.returns] at h; cases h)
  refine ⟨_, _, ?_, hrun, hended, _, _, rfl, ?_, ⟨_, rfl⟩, hW, hsame.mono (by decide) (by decide)⟩
  · skip
    have q := K7 _ (retI X0 hx Bd.returns hdx2 hr)
    rw [hP0] at q; exact q
  · show QP (.int (fPk p0 p1 p2 p3 p4)) h0 n0 _ s₁.heap _
    rw [e0]
    subst hjx2
    exact ⟨rfl, N0, rfl⟩
theorem end_d0 : decode prog_2_method_3_code 0 = .ok (.iload_n 1, 1) := by decide +kernel
theorem end_d1 : decode prog_2_method_3_code 1 = .ok (.istore_n 3, 1) := by decide +kernel
theorem end_d2 : decode prog_2_method_3_code 2 = .ok (.iload_n 3, 1) := by decide +kernel
theorem end_d3 : decode prog_2_method_3_code 3 = .ok (.iload_n 2, 1) := by decide +kernel
theorem end_d4 : decode prog_2_method_3_code 4 = .ok (.if_icmp .ge 17, 3) := by decide +kernel
theorem end_d7 : decode prog_2_method_3_code 7 = .ok (.aload_n 0, 1) := by decide +kernel
theorem end_d8 : decode prog_2_method_3_code 8 = .ok (.iload_n 3, 1) := by decide +kernel
theorem end_d9 : decode prog_2_method_3_code 9 = .ok (.baload, 1) := by decide +kernel
theorem end_d10 : decode prog_2_method_3_code 10 = .ok (.bipush 9, 2) := by decide +kernel
theorem end_d12 : decode prog_2_method_3_code 12 = .ok (.if_icmp .eq 9, 3) := by decide +kernel
theorem end_d15 : decode prog_2_method_3_code 15 = .ok (.iinc 3 1, 3) := by decide +kernel
theorem end_d18 : decode prog_2_method_3_code 18 = .ok (.goto (-16), 3) := by decide +kernel
theorem end_d21 : decode prog_2_method_3_code 21 = .ok (.iload_n 3, 1) := by decide +kernel
theorem end_d22 : decode prog_2_method_3_code 22 = .ok (.ireturn, 1) := by decide +kernel
theorem end_pn : plainName "com/example/lowtide/lowtide/Columns" = true := by first | (simp [plainName, overriddenIn]; done) | decide +kernel
theorem end_ef (m : MethodId) (x0 : Addr) (x1 : Int32) (x2 : Int32) : entryFrame m #[(.ref x0), (.int x1), (.int x2)] 4 = mkF m 0 #[.val (.ref x0), .val (.int x1), .val (.int x2), .unset] [] := by first | (simp [entryFrame, mkF, argsToLocals, Value.category]; done) | rfl
set_option maxRecDepth 65536 in
set_option maxHeartbeats 40000000 in
theorem rm_end (l : Launch) (Z : State) (a0 : Array Value) (hw : ∀ d ∈ tables_1, d.before a0 Z = true) (ws : List Jvm.Cond) (r0 : Addr) (p1 : Int32) (p2 : Int32) (fa : Nat → Int32) (i0 n : Nat) (h0 : Heap) (n0 : Nat) (Z0 : n0 ≤ h0.size) (Va : IA Z h0 r0 .byte 6 fa) (hp1 : p1 = Int32.ofNat i0) (hp2 : p2 = Int32.ofNat n) (hi0 : i0 ≤ n) (hn : n ≤ 6) :
    MetFree l (⟨"com/example/lowtide/lowtide/Columns", "end", "([BII)I"⟩ : MethodName) (head1 (Jvm.Cond.code (⟨"com/example/lowtide/lowtide/Columns", "end", "([BII)I"⟩ : MethodName) prog_2_method_3_code 4 (some .int) :: ws) ({ frames := 0, cells := 0, slots := 0, locals := 0 } : Room)) (fun a U => a = #[(.ref r0), (.int p1), (.int p2)] ∧ Z.Warmed39 U.vm ∧ U.heap = h0) (fun _ _ _ _ _ => True) (fun _ U o U' => ∃ v L, o = .returned v ∧ QP (.int (Int32.ofNat (scan fa i0 (n - i0)))) h0 n0 v U'.heap L ∧ FrameEnd U o U' L ({ frames := 0, cells := 0, slots := 0, locals := 0 } : Room).cells ({ frames := 0, cells := 0, slots := 0, locals := 0 } : Room).slots) := by
  refine MetFree.of_bodySF (plainFor_of_name end_pn) hisR ?_
  intro p e s m args below meth c s₁ Bd hml0 hP hK
  obtain ⟨rfl, hZ, hh⟩ := hP
  have hx := Bd.exec
  have hby := Bd.bytes
  have hml : c.maxLocals = 4 := hml0
  have hown : s.vm.findClass "com/example/lowtide/lowtide/Columns" = some m.cls := findClass_of_methodNamed Bd.named
  have hnm := (name_of_methodNamed Bd.named Bd.method).1
  have X0 : Stand p l e ({ frames := 0, cells := 0, slots := 0, locals := 0 } : Room) s m #[(.ref r0), (.int p1), (.int p2)] below meth c s₁ [] 0 0 := Stand.of_body Bd
  have e0 : s₁.heap = h0 := by rw [← hh, Bd.state]; rfl
  have N0 := Fr.nil n0
  obtain ⟨P0, hP0⟩ : ∃ P0 : State → Prop, P0 = fun t => Steps p.tables e below (s₁.setTop (entryFrame m #[(.ref r0), (.int p1), (.int p2)] 4)) t := ⟨_, rfl⟩
  have K0 : ∀ t, Steps p.tables e below (s₁.setTop (mkF m 0 #[.val (.ref r0), .val (.int p1), .val (.int p2), .unset] [])) t → P0 t := by
    intro t k; rw [hP0]; exact castTop (end_ef m r0 p1 p2) k
  have K1 : ∀ t, Steps p.tables e below (s₁.setTop (mkF m 2 #[.val (.ref r0), .val (.int p1), .val (.int p2), .val (.int p1)] [])) t → P0 t := by
    intro t kt
    refine K0 t ?_
    show Steps p.tables e below (s₁.setTop (mkF m 0 #[.val (.ref r0), .val (.int p1), .val (.int p2), .unset] [])) t
    refine XS.iloadN X0.here hx rfl (hb hby end_d0) rfl ?_
    show Steps p.tables e below (s₁.setTop (mkF m 1 #[.val (.ref r0), .val (.int p1), .val (.int p2), .unset] [(.int p1)])) t
    refine XS.istoreN X0.here hx rfl (hb hby end_d1) rfl (l' := #[.val (.ref r0), .val (.int p1), .val (.int p2), .val (.int p1)]) rfl ?_
    exact kt
  have KL : ∀ (k i : Nat) (z : Int32), z = Int32.ofNat i → i + k = n → ∀ t, Steps p.tables e below (s₁.setTop (mkF m 21 #[.val (.ref r0), .val (.int p1), .val (.int p2), .val (.int (Int32.ofNat (scan fa i k)))] [])) t → Steps p.tables e below (s₁.setTop (mkF m 2 #[.val (.ref r0), .val (.int p1), .val (.int p2), .val (.int z)] [])) t := by
    intro k; induction k with
    | zero =>
      intro i z hz hik
      subst hz
      have hlt : ¬ (Int32.ofNat i) < p2 := by rw [hp2, own_ofNat_lt (by omega) (by omega)]; omega
      have KA : ∀ t, Steps p.tables e below (s₁.setTop (mkF m 21 #[.val (.ref r0), .val (.int p1), .val (.int p2), .val (.int (Int32.ofNat i))] [])) t → Steps p.tables e below (s₁.setTop (mkF m 2 #[.val (.ref r0), .val (.int p1), .val (.int p2), .val (.int (Int32.ofNat i))] [])) t := by
        intro t kt
        show Steps p.tables e below (s₁.setTop (mkF m 2 #[.val (.ref r0), .val (.int p1), .val (.int p2), .val (.int (Int32.ofNat i))] [])) t
        refine XS.iloadN X0.here hx rfl (hb hby end_d2) rfl ?_
        show Steps p.tables e below (s₁.setTop (mkF m 3 #[.val (.ref r0), .val (.int p1), .val (.int p2), .val (.int (Int32.ofNat i))] [(.int (Int32.ofNat i))])) t
        refine XS.iloadN X0.here hx rfl (hb hby end_d3) rfl ?_
        show Steps p.tables e below (s₁.setTop (mkF m 4 #[.val (.ref r0), .val (.int p1), .val (.int p2), .val (.int (Int32.ofNat i))] [(.int p2), (.int (Int32.ofNat i))])) t
        refine XS.icmpYes X0.here hx rfl (pc0 := 4) (pc' := 21) rfl (hb hby end_d4) rfl (flt hlt).2.1 (by decide) (by decide) ?_
        exact kt
      exact KA
    | succ k ih =>
      intro i z hz hik
      subst hz
      have hlt : (Int32.ofNat i) < p2 := by rw [hp2, own_ofNat_lt (by omega) (by omega)]; omega
      have hin : ¬ ((Int32.ofNat i) < 0 ∨ 6 ≤ (Int32.ofNat i).toNatClampNeg) := own_ofNat_in (by omega) (by decide)
      have hfi : fa (Int32.ofNat i).toNatClampNeg = fa i := by rw [own_ofNat_nat (by omega)]
      by_cases h9 : fa i = 9
      · have h9' : (fa (Int32.ofNat i).toNatClampNeg) = (9 : Int32) := hfi.trans h9
        have KB : ∀ t, Steps p.tables e below (s₁.setTop (mkF m 21 #[.val (.ref r0), .val (.int p1), .val (.int p2), .val (.int (Int32.ofNat i))] [])) t → Steps p.tables e below (s₁.setTop (mkF m 2 #[.val (.ref r0), .val (.int p1), .val (.int p2), .val (.int (Int32.ofNat i))] [])) t := by
          intro t kt
          show Steps p.tables e below (s₁.setTop (mkF m 2 #[.val (.ref r0), .val (.int p1), .val (.int p2), .val (.int (Int32.ofNat i))] [])) t
          refine XS.iloadN X0.here hx rfl (hb hby end_d2) rfl ?_
          show Steps p.tables e below (s₁.setTop (mkF m 3 #[.val (.ref r0), .val (.int p1), .val (.int p2), .val (.int (Int32.ofNat i))] [(.int (Int32.ofNat i))])) t
          refine XS.iloadN X0.here hx rfl (hb hby end_d3) rfl ?_
          show Steps p.tables e below (s₁.setTop (mkF m 4 #[.val (.ref r0), .val (.int p1), .val (.int p2), .val (.int (Int32.ofNat i))] [(.int p2), (.int (Int32.ofNat i))])) t
          refine XS.icmpNo X0.here hx rfl (hb hby end_d4) rfl (tlt hlt).2.1 ?_
          show Steps p.tables e below (s₁.setTop (mkF m 7 #[.val (.ref r0), .val (.int p1), .val (.int p2), .val (.int (Int32.ofNat i))] [])) t
          refine XS.aloadN X0.here hx rfl (hb hby end_d7) rfl rfl ?_
          show Steps p.tables e below (s₁.setTop (mkF m 8 #[.val (.ref r0), .val (.int p1), .val (.int p2), .val (.int (Int32.ofNat i))] [(.ref r0)])) t
          refine XS.iloadN X0.here hx rfl (hb hby end_d8) rfl ?_
          show Steps p.tables e below (s₁.setTop (mkF m 9 #[.val (.ref r0), .val (.int p1), .val (.int p2), .val (.int (Int32.ofNat i))] [(.int (Int32.ofNat i)), (.ref r0)])) t
          refine ldBA X0 hx hZ e0 Va (j := (Int32.ofNat i)) hin (g := (mkF m 9 #[.val (.ref r0), .val (.int p1), .val (.int p2), .val (.int (Int32.ofNat i))] [(.int (Int32.ofNat i)), (.ref r0)])) rfl rfl (hb hby end_d9) _ ?_
          show Steps p.tables e below (s₁.setTop (mkF m 10 #[.val (.ref r0), .val (.int p1), .val (.int p2), .val (.int (Int32.ofNat i))] [(.int (fa ((Int32.ofNat i)).toNatClampNeg))])) t
          refine XS.bipush X0.here hx rfl (hb hby end_d10) ?_
          show Steps p.tables e below (s₁.setTop (mkF m 12 #[.val (.ref r0), .val (.int p1), .val (.int p2), .val (.int (Int32.ofNat i))] [(.int (9 : Int32)), (.int (fa ((Int32.ofNat i)).toNatClampNeg))])) t
          refine XS.icmpYes X0.here hx rfl (pc0 := 12) (pc' := 21) rfl (hb hby end_d12) rfl (teq h9').1 (by decide) (by decide) ?_
          exact kt
        rw [show scan fa i (k + 1) = i from if_pos h9]
        exact KB
      · have h9' : ¬ (fa (Int32.ofNat i).toNatClampNeg) = (9 : Int32) := fun q => h9 (hfi.symm.trans q)
        have KC : ∀ t, Steps p.tables e below (s₁.setTop (mkF m 2 #[.val (.ref r0), .val (.int p1), .val (.int p2), .val (.int ((Int32.ofNat i) + (1 : Int32)))] [])) t → Steps p.tables e below (s₁.setTop (mkF m 2 #[.val (.ref r0), .val (.int p1), .val (.int p2), .val (.int (Int32.ofNat i))] [])) t := by
          intro t kt
          show Steps p.tables e below (s₁.setTop (mkF m 2 #[.val (.ref r0), .val (.int p1), .val (.int p2), .val (.int (Int32.ofNat i))] [])) t
          refine XS.iloadN X0.here hx rfl (hb hby end_d2) rfl ?_
          show Steps p.tables e below (s₁.setTop (mkF m 3 #[.val (.ref r0), .val (.int p1), .val (.int p2), .val (.int (Int32.ofNat i))] [(.int (Int32.ofNat i))])) t
          refine XS.iloadN X0.here hx rfl (hb hby end_d3) rfl ?_
          show Steps p.tables e below (s₁.setTop (mkF m 4 #[.val (.ref r0), .val (.int p1), .val (.int p2), .val (.int (Int32.ofNat i))] [(.int p2), (.int (Int32.ofNat i))])) t
          refine XS.icmpNo X0.here hx rfl (hb hby end_d4) rfl (tlt hlt).2.1 ?_
          show Steps p.tables e below (s₁.setTop (mkF m 7 #[.val (.ref r0), .val (.int p1), .val (.int p2), .val (.int (Int32.ofNat i))] [])) t
          refine XS.aloadN X0.here hx rfl (hb hby end_d7) rfl rfl ?_
          show Steps p.tables e below (s₁.setTop (mkF m 8 #[.val (.ref r0), .val (.int p1), .val (.int p2), .val (.int (Int32.ofNat i))] [(.ref r0)])) t
          refine XS.iloadN X0.here hx rfl (hb hby end_d8) rfl ?_
          show Steps p.tables e below (s₁.setTop (mkF m 9 #[.val (.ref r0), .val (.int p1), .val (.int p2), .val (.int (Int32.ofNat i))] [(.int (Int32.ofNat i)), (.ref r0)])) t
          refine ldBA X0 hx hZ e0 Va (j := (Int32.ofNat i)) hin (g := (mkF m 9 #[.val (.ref r0), .val (.int p1), .val (.int p2), .val (.int (Int32.ofNat i))] [(.int (Int32.ofNat i)), (.ref r0)])) rfl rfl (hb hby end_d9) _ ?_
          show Steps p.tables e below (s₁.setTop (mkF m 10 #[.val (.ref r0), .val (.int p1), .val (.int p2), .val (.int (Int32.ofNat i))] [(.int (fa ((Int32.ofNat i)).toNatClampNeg))])) t
          refine XS.bipush X0.here hx rfl (hb hby end_d10) ?_
          show Steps p.tables e below (s₁.setTop (mkF m 12 #[.val (.ref r0), .val (.int p1), .val (.int p2), .val (.int (Int32.ofNat i))] [(.int (9 : Int32)), (.int (fa ((Int32.ofNat i)).toNatClampNeg))])) t
          refine XS.icmpNo X0.here hx rfl (hb hby end_d12) rfl (feq h9').1 ?_
          show Steps p.tables e below (s₁.setTop (mkF m 15 #[.val (.ref r0), .val (.int p1), .val (.int p2), .val (.int (Int32.ofNat i))] [])) t
          refine XS.iinc X0.here hx rfl (hb hby end_d15) rfl (l' := #[.val (.ref r0), .val (.int p1), .val (.int p2), .val (.int ((Int32.ofNat i) + (1 : Int32)))]) rfl ?_
          show Steps p.tables e below (s₁.setTop (mkF m 18 #[.val (.ref r0), .val (.int p1), .val (.int p2), .val (.int ((Int32.ofNat i) + (1 : Int32)))] [])) t
          refine XS.goto X0.here hx rfl (pc0 := 18) (pc' := 2) rfl (hb hby end_d18) (by decide) (by decide) ?_
          exact kt
        rw [show scan fa i (k + 1) = scan fa (i + 1) k from if_neg h9]
        exact fun t kt => KC t (ih (i + 1) _ (own_ofNat_succ i) (by omega) t kt)
  have K2 : ∀ t, Steps p.tables e below (s₁.setTop (mkF m 21 #[.val (.ref r0), .val (.int p1), .val (.int p2), .val (.int (Int32.ofNat (scan fa i0 (n - i0))))] [])) t → P0 t := fun t kt => K1 t (KL (n - i0) i0 p1 hp1 (by omega) t kt)
  have K3 : ∀ t, Steps p.tables e below (s₁.setTop (mkF m 22 #[.val (.ref r0), .val (.int p1), .val (.int p2), .val (.int (Int32.ofNat (scan fa i0 (n - i0))))] [(.int (Int32.ofNat (scan fa i0 (n - i0))))])) t → P0 t := by
    intro t kt
    refine K2 t ?_
    show Steps p.tables e below (s₁.setTop (mkF m 21 #[.val (.ref r0), .val (.int p1), .val (.int p2), .val (.int (Int32.ofNat (scan fa i0 (n - i0))))] [])) t
    refine XS.iloadN X0.here hx rfl (hb hby end_d21) rfl ?_
    exact kt
  obtain ⟨fs, hr, hrun, hended, hW, hsame⟩ := X0.leave (v := some (.int (Int32.ofNat (scan fa i0 (n - i0))))) (fun h => by rw [Bd.returns] at h; cases h)
  refine ⟨_, _, ?_, hrun, hended, _, _, rfl, ?_, ⟨_, rfl⟩, hW, hsame.mono (by decide) (by decide)⟩
  · skip
    have q := K3 _ (retI X0 hx Bd.returns (hb hby end_d22) hr)
    rw [hP0] at q; exact q
  · show QP _ h0 n0 _ s₁.heap _
    rw [e0]
    exact ⟨rfl, N0, rfl⟩
theorem sta_d0 : decode prog_2_method_2_code 0 = .ok (.iload_n 1, 1) := by decide +kernel
theorem sta_d1 : decode prog_2_method_2_code 1 = .ok (.iload_n 2, 1) := by decide +kernel
theorem sta_d2 : decode prog_2_method_2_code 2 = .ok (.iadd, 1) := by decide +kernel
theorem sta_d3 : decode prog_2_method_2_code 3 = .ok (.istore 4, 2) := by decide +kernel
theorem sta_d5 : decode prog_2_method_2_code 5 = .ok (.iload_n 1, 1) := by decide +kernel
theorem sta_d6 : decode prog_2_method_2_code 6 = .ok (.istore 5, 2) := by decide +kernel
theorem sta_d8 : decode prog_2_method_2_code 8 = .ok (.iconst 1, 1) := by decide +kernel
theorem sta_d9 : decode prog_2_method_2_code 9 = .ok (.istore 6, 2) := by decide +kernel
theorem sta_d11 : decode prog_2_method_2_code 11 = .ok (.iload 6, 2) := by decide +kernel
theorem sta_d13 : decode prog_2_method_2_code 13 = .ok (.iload_n 3, 1) := by decide +kernel
theorem sta_d14 : decode prog_2_method_2_code 14 = .ok (.if_icmp .ge 34, 3) := by decide +kernel
theorem sta_d17 : decode prog_2_method_2_code 17 = .ok (.aload_n 0, 1) := by decide +kernel
theorem sta_d18 : decode prog_2_method_2_code 18 = .ok (.iload 5, 2) := by decide +kernel
theorem sta_d20 : decode prog_2_method_2_code 20 = .ok (.iload 4, 2) := by decide +kernel
theorem sta_d22 : decode prog_2_method_2_code 22 = .ok (.invokestatic 7, 3) := by decide +kernel
theorem sta_d25 : decode prog_2_method_2_code 25 = .ok (.istore 7, 2) := by decide +kernel
theorem sta_d27 : decode prog_2_method_2_code 27 = .ok (.iload 7, 2) := by decide +kernel
theorem sta_d29 : decode prog_2_method_2_code 29 = .ok (.iload 4, 2) := by decide +kernel
theorem sta_d31 : decode prog_2_method_2_code 31 = .ok (.if_icmp .ne 5, 3) := by decide +kernel
theorem sta_d34 : decode prog_2_method_2_code 34 = .ok (.iconst (-1), 1) := by decide +kernel
theorem sta_d35 : decode prog_2_method_2_code 35 = .ok (.ireturn, 1) := by decide +kernel
theorem sta_d36 : decode prog_2_method_2_code 36 = .ok (.iload 7, 2) := by decide +kernel
theorem sta_d38 : decode prog_2_method_2_code 38 = .ok (.iconst 1, 1) := by decide +kernel
theorem sta_d39 : decode prog_2_method_2_code 39 = .ok (.iadd, 1) := by decide +kernel
theorem sta_d40 : decode prog_2_method_2_code 40 = .ok (.istore 5, 2) := by decide +kernel
theorem sta_d42 : decode prog_2_method_2_code 42 = .ok (.iinc 6 1, 3) := by decide +kernel
theorem sta_d45 : decode prog_2_method_2_code 45 = .ok (.goto (-34), 3) := by decide +kernel
theorem sta_d48 : decode prog_2_method_2_code 48 = .ok (.iload 5, 2) := by decide +kernel
theorem sta_d50 : decode prog_2_method_2_code 50 = .ok (.ireturn, 1) := by decide +kernel
theorem sta_pn : plainName "com/example/lowtide/lowtide/Columns" = true := by first | (simp [plainName, overriddenIn]; done) | decide +kernel
theorem sta_pd0 : parseMethodDescriptor "([BII)I" = some ⟨[(.array .byte), .int, .int], some .int⟩ := by decide +kernel
theorem sta_ef (m : MethodId) (x0 : Addr) (x1 : Int32) (x2 : Int32) (x3 : Int32) : entryFrame m #[(.ref x0), (.int x1), (.int x2), (.int x3)] 8 = mkF m 0 #[.val (.ref x0), .val (.int x1), .val (.int x2), .val (.int x3), .unset, .unset, .unset, .unset] [] := by first | (simp [entryFrame, mkF, argsToLocals, Value.category]; done) | rfl
set_option maxRecDepth 65536 in
set_option maxHeartbeats 40000000 in
theorem rm_sta (l : Launch) (Z : State) (a0 : Array Value) (hw : ∀ d ∈ tables_1, d.before a0 Z = true) (ws : List Jvm.Cond) (r0 : Addr) (p1 : Int32) (p2 : Int32) (p3 : Int32) (fa : Nat → Int32) (i0 n col : Nat) (h0 : Heap) (n0 : Nat) (Z0 : n0 ≤ h0.size) (Va : IA Z h0 r0 .byte 6 fa) (hp1 : p1 = Int32.ofNat i0) (hnn : p1 + p2 = Int32.ofNat n) (hp3 : p3 = Int32.ofNat col) (hi0 : i0 ≤ n) (hn : n ≤ 6) (hc1 : 1 ≤ col) (hc8 : col ≤ 8) :
    MetFree l (⟨"com/example/lowtide/lowtide/Columns", "start", "([BIII)I"⟩ : MethodName) (head1 (Jvm.Cond.code (⟨"com/example/lowtide/lowtide/Columns", "start", "([BIII)I"⟩ : MethodName) prog_2_method_2_code 8 (some .int) :: ws) ({ frames := 1, cells := 0, slots := 0, locals := 15 } : Room)) (fun a U => a = #[(.ref r0), (.int p1), (.int p2), (.int p3)] ∧ Z.Warmed39 U.vm ∧ U.heap = h0) (fun _ _ _ _ _ => True) (fun _ U o U' => ∃ v L, o = .returned v ∧ QP (.int (startf fa n (col - 1) i0)) h0 n0 v U'.heap L ∧ FrameEnd U o U' L ({ frames := 1, cells := 0, slots := 0, locals := 15 } : Room).cells ({ frames := 1, cells := 0, slots := 0, locals := 15 } : Room).slots) := by
  refine MetFree.of_bodySF (plainFor_of_name sta_pn) hisR ?_
  intro p e s m args below meth c s₁ Bd hml0 hP hK
  obtain ⟨rfl, hZ, hh⟩ := hP
  have hx := Bd.exec
  have hby := Bd.bytes
  have hml : c.maxLocals = 8 := hml0
  have hown : s.vm.findClass "com/example/lowtide/lowtide/Columns" = some m.cls := findClass_of_methodNamed Bd.named
  have hnm := (name_of_methodNamed Bd.named Bd.method).1
  have X0 : Stand p l e ({ frames := 1, cells := 0, slots := 0, locals := 15 } : Room) s m #[(.ref r0), (.int p1), (.int p2), (.int p3)] below meth c s₁ [] 0 0 := Stand.of_body Bd
  have e0 : s₁.heap = h0 := by rw [← hh, Bd.state]; rfl
  have N0 := Fr.nil n0
  obtain ⟨P0, hP0⟩ : ∃ P0 : State → Prop, P0 = fun t => Steps p.tables e below (s₁.setTop (entryFrame m #[(.ref r0), (.int p1), (.int p2), (.int p3)] 8)) t := ⟨_, rfl⟩
  have K0 : ∀ t, Steps p.tables e below (s₁.setTop (mkF m 0 #[.val (.ref r0), .val (.int p1), .val (.int p2), .val (.int p3), .unset, .unset, .unset, .unset] [])) t → P0 t := by
    intro t k; rw [hP0]; exact castTop (sta_ef m r0 p1 p2 p3) k
  have K1 : ∀ t, Steps p.tables e below (s₁.setTop (mkF m 5 #[.val (.ref r0), .val (.int p1), .val (.int p2), .val (.int p3), .val (.int (p1 + p2)), .unset, .unset, .unset] [])) t → P0 t := by
    intro t kt
    refine K0 t ?_
    show Steps p.tables e below (s₁.setTop (mkF m 0 #[.val (.ref r0), .val (.int p1), .val (.int p2), .val (.int p3), .unset, .unset, .unset, .unset] [])) t
    refine XS.iloadN X0.here hx rfl (hb hby sta_d0) rfl ?_
    show Steps p.tables e below (s₁.setTop (mkF m 1 #[.val (.ref r0), .val (.int p1), .val (.int p2), .val (.int p3), .unset, .unset, .unset, .unset] [(.int p1)])) t
    refine XS.iloadN X0.here hx rfl (hb hby sta_d1) rfl ?_
    show Steps p.tables e below (s₁.setTop (mkF m 2 #[.val (.ref r0), .val (.int p1), .val (.int p2), .val (.int p3), .unset, .unset, .unset, .unset] [(.int p2), (.int p1)])) t
    refine XS.iadd X0.here hx rfl (hb hby sta_d2) rfl ?_
    show Steps p.tables e below (s₁.setTop (mkF m 3 #[.val (.ref r0), .val (.int p1), .val (.int p2), .val (.int p3), .unset, .unset, .unset, .unset] [(.int (p1 + p2))])) t
    refine XS.istore X0.here hx rfl (hb hby sta_d3) rfl (l' := #[.val (.ref r0), .val (.int p1), .val (.int p2), .val (.int p3), .val (.int (p1 + p2)), .unset, .unset, .unset]) rfl ?_
    exact kt
  obtain ⟨v3, hv3, K2⟩ : ∃ v3 : Int32, v3 = (p1 + p2) ∧ ∀ t, Steps p.tables e below (s₁.setTop (mkF m 5 #[.val (.ref r0), .val (.int p1), .val (.int p2), .val (.int p3), .val (.int v3), .unset, .unset, .unset] [])) t → P0 t := ⟨_, rfl, K1⟩
  have hlim : v3 = Int32.ofNat n := hv3.trans hnn
  have K3 : ∀ t, Steps p.tables e below (s₁.setTop (mkF m 11 #[.val (.ref r0), .val (.int p1), .val (.int p2), .val (.int p3), .val (.int v3), .val (.int p1), .val (.int (1 : Int32)), .unset] [])) t → P0 t := by
    intro t kt
    refine K2 t ?_
    show Steps p.tables e below (s₁.setTop (mkF m 5 #[.val (.ref r0), .val (.int p1), .val (.int p2), .val (.int p3), .val (.int v3), .unset, .unset, .unset] [])) t
    refine XS.iloadN X0.here hx rfl (hb hby sta_d5) rfl ?_
    show Steps p.tables e below (s₁.setTop (mkF m 6 #[.val (.ref r0), .val (.int p1), .val (.int p2), .val (.int p3), .val (.int v3), .unset, .unset, .unset] [(.int p1)])) t
    refine XS.istore X0.here hx rfl (hb hby sta_d6) rfl (l' := #[.val (.ref r0), .val (.int p1), .val (.int p2), .val (.int p3), .val (.int v3), .val (.int p1), .unset, .unset]) rfl ?_
    show Steps p.tables e below (s₁.setTop (mkF m 8 #[.val (.ref r0), .val (.int p1), .val (.int p2), .val (.int p3), .val (.int v3), .val (.int p1), .unset, .unset] [])) t
    refine XS.iconst X0.here hx rfl (hb hby sta_d8) ?_
    show Steps p.tables e below (s₁.setTop (mkF m 9 #[.val (.ref r0), .val (.int p1), .val (.int p2), .val (.int p3), .val (.int v3), .val (.int p1), .unset, .unset] [(.int (1 : Int32))])) t
    refine XS.istore X0.here hx rfl (hb hby sta_d9) rfl (l' := #[.val (.ref r0), .val (.int p1), .val (.int p2), .val (.int p3), .val (.int v3), .val (.int p1), .val (.int (1 : Int32)), .unset]) rfl ?_
    exact kt
  have KL : ∀ (k pos c6 : Nat) (z5 z6 : Int32) (s7 : Slot) (T : State) (lc : List Loc), z5 = Int32.ofNat pos → z6 = Int32.ofNat c6 → c6 + k = col → pos ≤ n → One s7 → Stand p l e ({ frames := 1, cells := 0, slots := 0, locals := 15 } : Room) s m #[(.ref r0), (.int p1), (.int p2), (.int p3)] below meth c T lc 0 0 → T.heap = h0 → Fr n0 lc → ∃ (pcR : Nat) (LR : Array Slot) (SR : List Value) (T' : State) (lc' : List Loc), decode c.code pcR = .ok (.ireturn, 1) ∧ Stand p l e ({ frames := 1, cells := 0, slots := 0, locals := 15 } : Room) s m #[(.ref r0), (.int p1), (.int p2), (.int p3)] below meth c T' lc' 0 0 ∧ T'.heap = h0 ∧ Fr n0 lc' ∧ ∀ t, Steps p.tables e below (T'.setTop (mkF m pcR LR (.int (startf fa n k pos) :: SR))) t → Steps p.tables e below (T.setTop (mkF m 11 #[.val (.ref r0), .val (.int p1), .val (.int p2), .val (.int p3), .val (.int v3), .val (.int z5), .val (.int z6), s7] [])) t := by
    intro k; induction k with
    | zero =>
      intro pos c6 z5 z6 s7 T lc h5 h6 hck hpn ho7 X eT NT
      subst h5 h6
      obtain ⟨P1, hP1⟩ : ∃ P : State → Prop, P = fun t => Steps p.tables e below (T.setTop (mkF m 11 #[.val (.ref r0), .val (.int p1), .val (.int p2), .val (.int p3), .val (.int v3), .val (.int (Int32.ofNat pos)), .val (.int (Int32.ofNat c6)), s7] [])) t := ⟨_, rfl⟩
      have KP : ∀ t, Steps p.tables e below (T.setTop (mkF m 11 #[.val (.ref r0), .val (.int p1), .val (.int p2), .val (.int p3), .val (.int v3), .val (.int (Int32.ofNat pos)), .val (.int (Int32.ofNat c6)), s7] [])) t → P1 t := by rw [hP1]; exact fun t k => k
      have hlt : ¬ (Int32.ofNat c6) < p3 := by rw [hp3, own_ofNat_lt (by omega) (by omega)]; omega
      have K4 : ∀ t, Steps p.tables e below (T.setTop (mkF m 50 #[.val (.ref r0), .val (.int p1), .val (.int p2), .val (.int p3), .val (.int v3), .val (.int (Int32.ofNat pos)), .val (.int (Int32.ofNat c6)), s7] [(.int (Int32.ofNat pos))])) t → P1 t := by
        intro t kt
        refine KP t ?_
        show Steps p.tables e below (T.setTop (mkF m 11 #[.val (.ref r0), .val (.int p1), .val (.int p2), .val (.int p3), .val (.int v3), .val (.int (Int32.ofNat pos)), .val (.int (Int32.ofNat c6)), s7] [])) t
        refine XS.iload X.here hx rfl (hb hby sta_d11) rfl ?_
        show Steps p.tables e below (T.setTop (mkF m 13 #[.val (.ref r0), .val (.int p1), .val (.int p2), .val (.int p3), .val (.int v3), .val (.int (Int32.ofNat pos)), .val (.int (Int32.ofNat c6)), s7] [(.int (Int32.ofNat c6))])) t
        refine XS.iloadN X.here hx rfl (hb hby sta_d13) rfl ?_
        show Steps p.tables e below (T.setTop (mkF m 14 #[.val (.ref r0), .val (.int p1), .val (.int p2), .val (.int p3), .val (.int v3), .val (.int (Int32.ofNat pos)), .val (.int (Int32.ofNat c6)), s7] [(.int p3), (.int (Int32.ofNat c6))])) t
        refine XS.icmpYes X.here hx rfl (pc0 := 14) (pc' := 48) rfl (hb hby sta_d14) rfl (flt hlt).2.1 (by decide) (by decide) ?_
        show Steps p.tables e below (T.setTop (mkF m 48 #[.val (.ref r0), .val (.int p1), .val (.int p2), .val (.int p3), .val (.int v3), .val (.int (Int32.ofNat pos)), .val (.int (Int32.ofNat c6)), s7] [])) t
        refine XS.iload X.here hx rfl (hb hby sta_d48) rfl ?_
        exact kt
      rw [hP1] at K4
      exact ⟨_, _, _, T, lc, (hb hby sta_d50), X, eT, NT, K4⟩
    | succ k ih =>
      intro pos c6 z5 z6 s7 T lc h5 h6 hck hpn ho7 X eT NT
      subst h5 h6
      obtain ⟨P1, hP1⟩ : ∃ P : State → Prop, P = fun t => Steps p.tables e below (T.setTop (mkF m 11 #[.val (.ref r0), .val (.int p1), .val (.int p2), .val (.int p3), .val (.int v3), .val (.int (Int32.ofNat pos)), .val (.int (Int32.ofNat c6)), s7] [])) t := ⟨_, rfl⟩
      have KP : ∀ t, Steps p.tables e below (T.setTop (mkF m 11 #[.val (.ref r0), .val (.int p1), .val (.int p2), .val (.int p3), .val (.int v3), .val (.int (Int32.ofNat pos)), .val (.int (Int32.ofNat c6)), s7] [])) t → P1 t := by rw [hP1]; exact fun t k => k
      have hlt : (Int32.ofNat c6) < p3 := by rw [hp3, own_ofNat_lt (by omega) (by omega)]; omega
      have hsc := own_scan fa (n - pos) pos
      obtain ⟨_, _, ⟨T5, L5, k5, n5⟩, -, X5, ⟨Lc5, hQ5, l5, y5, z5⟩, st5⟩ := Jvm.LawKit.callS X hx (y := (⟨"com/example/lowtide/lowtide/Columns", "end", "([BII)I"⟩ : MethodName)) hown (mvT hZ (hw _ (List.mem_of_getElem? (i := 16) rfl))) (mvT hZ (hw _ (List.mem_of_getElem? (i := 17) rfl))) (mvT hZ (hw _ (List.mem_of_getElem? (i := 14) rfl))) (mvT hZ (hw _ (List.mem_of_getElem? (i := 18) rfl))) (by decide) (backOf (W := 0) (rm_end l Z a0 hw [] r0 (Int32.ofNat pos) v3 fa pos n h0 n0 Z0 Va rfl hlim hpn hn) hZ (hw _ (List.mem_of_getElem? (i := 18) rfl)) (hw _ (List.mem_of_getElem? (i := 14) rfl)) (by decide) (by decide)) (g := (mkF m 22 #[.val (.ref r0), .val (.int p1), .val (.int p2), .val (.int p3), .val (.int v3), .val (.int (Int32.ofNat pos)), .val (.int (Int32.ofNat c6)), s7] [(.int v3), (.int (Int32.ofNat pos)), (.ref r0)])) rfl (by rw [hml]; rfl) (argsL := [(.ref r0), (.int (Int32.ofNat pos)), (.int v3)]) (rest := []) (lenOf sta_pd0 rfl) rfl (by show 2 * 0 + _ ≤ _; exact Nat.le_of_eq rfl) (hb hby sta_d22) (fun _ _ => ⟨rfl, eT, (by decide : 0 + 0 ≤ _), (by decide : 0 + 0 ≤ _)⟩)
      dsimp only [Pt.U, Pt.locs, Pt.cells, Pt.slots] at X5 l5 y5 z5 st5 hQ5
      rw [l5, y5, z5] at X5
      obtain ⟨rfl, N5q, e5⟩ := hQ5
      have N5 := Fr.app NT N5q
      have K6 : ∀ t, Steps p.tables e below (T5.setTop (mkF m 31 #[.val (.ref r0), .val (.int p1), .val (.int p2), .val (.int p3), .val (.int v3), .val (.int (Int32.ofNat pos)), .val (.int (Int32.ofNat c6)), .val (.int (Int32.ofNat (scan fa pos (n - pos))))] [(.int v3), (.int (Int32.ofNat (scan fa pos (n - pos))))])) t → P1 t := by
        intro t kt
        refine KP t ?_
        show Steps p.tables e below (T.setTop (mkF m 11 #[.val (.ref r0), .val (.int p1), .val (.int p2), .val (.int p3), .val (.int v3), .val (.int (Int32.ofNat pos)), .val (.int (Int32.ofNat c6)), s7] [])) t
        refine XS.iload X.here hx rfl (hb hby sta_d11) rfl ?_
        show Steps p.tables e below (T.setTop (mkF m 13 #[.val (.ref r0), .val (.int p1), .val (.int p2), .val (.int p3), .val (.int v3), .val (.int (Int32.ofNat pos)), .val (.int (Int32.ofNat c6)), s7] [(.int (Int32.ofNat c6))])) t
        refine XS.iloadN X.here hx rfl (hb hby sta_d13) rfl ?_
        show Steps p.tables e below (T.setTop (mkF m 14 #[.val (.ref r0), .val (.int p1), .val (.int p2), .val (.int p3), .val (.int v3), .val (.int (Int32.ofNat pos)), .val (.int (Int32.ofNat c6)), s7] [(.int p3), (.int (Int32.ofNat c6))])) t
        refine XS.icmpNo X.here hx rfl (hb hby sta_d14) rfl (tlt hlt).2.1 ?_
        show Steps p.tables e below (T.setTop (mkF m 17 #[.val (.ref r0), .val (.int p1), .val (.int p2), .val (.int p3), .val (.int v3), .val (.int (Int32.ofNat pos)), .val (.int (Int32.ofNat c6)), s7] [])) t
        refine XS.aloadN X.here hx rfl (hb hby sta_d17) rfl rfl ?_
        show Steps p.tables e below (T.setTop (mkF m 18 #[.val (.ref r0), .val (.int p1), .val (.int p2), .val (.int p3), .val (.int v3), .val (.int (Int32.ofNat pos)), .val (.int (Int32.ofNat c6)), s7] [(.ref r0)])) t
        refine XS.iload X.here hx rfl (hb hby sta_d18) rfl ?_
        show Steps p.tables e below (T.setTop (mkF m 20 #[.val (.ref r0), .val (.int p1), .val (.int p2), .val (.int p3), .val (.int v3), .val (.int (Int32.ofNat pos)), .val (.int (Int32.ofNat c6)), s7] [(.int (Int32.ofNat pos)), (.ref r0)])) t
        refine XS.iload X.here hx rfl (hb hby sta_d20) rfl ?_
        show Steps p.tables e below (T.setTop (mkF m 22 #[.val (.ref r0), .val (.int p1), .val (.int p2), .val (.int p3), .val (.int v3), .val (.int (Int32.ofNat pos)), .val (.int (Int32.ofNat c6)), s7] [(.int v3), (.int (Int32.ofNat pos)), (.ref r0)])) t
        refine st5 _ ?_
        show Steps p.tables e below (T5.setTop (mkF m 25 #[.val (.ref r0), .val (.int p1), .val (.int p2), .val (.int p3), .val (.int v3), .val (.int (Int32.ofNat pos)), .val (.int (Int32.ofNat c6)), s7] [(.int (Int32.ofNat (scan fa pos (n - pos))))])) t
        refine XS.istore X5.here hx rfl (hb hby sta_d25) rfl (l' := #[.val (.ref r0), .val (.int p1), .val (.int p2), .val (.int p3), .val (.int v3), .val (.int (Int32.ofNat pos)), .val (.int (Int32.ofNat c6)), .val (.int (Int32.ofNat (scan fa pos (n - pos))))]) (XS.store1 (o := s7) rfl ho7 rfl) ?_
        show Steps p.tables e below (T5.setTop (mkF m 27 #[.val (.ref r0), .val (.int p1), .val (.int p2), .val (.int p3), .val (.int v3), .val (.int (Int32.ofNat pos)), .val (.int (Int32.ofNat c6)), .val (.int (Int32.ofNat (scan fa pos (n - pos))))] [])) t
        refine XS.iload X5.here hx rfl (hb hby sta_d27) rfl ?_
        show Steps p.tables e below (T5.setTop (mkF m 29 #[.val (.ref r0), .val (.int p1), .val (.int p2), .val (.int p3), .val (.int v3), .val (.int (Int32.ofNat pos)), .val (.int (Int32.ofNat c6)), .val (.int (Int32.ofNat (scan fa pos (n - pos))))] [(.int (Int32.ofNat (scan fa pos (n - pos))))])) t
        refine XS.iload X5.here hx rfl (hb hby sta_d29) rfl ?_
        exact kt
      by_cases he : scan fa pos (n - pos) = n
      · have he' : (Int32.ofNat (scan fa pos (n - pos))) = v3 := by rw [hlim, he]
        have K7 : ∀ t, Steps p.tables e below (T5.setTop (mkF m 35 #[.val (.ref r0), .val (.int p1), .val (.int p2), .val (.int p3), .val (.int v3), .val (.int (Int32.ofNat pos)), .val (.int (Int32.ofNat c6)), .val (.int (Int32.ofNat (scan fa pos (n - pos))))] [(.int (-1 : Int32))])) t → P1 t := by
          intro t kt
          refine K6 t ?_
          show Steps p.tables e below (T5.setTop (mkF m 31 #[.val (.ref r0), .val (.int p1), .val (.int p2), .val (.int p3), .val (.int v3), .val (.int (Int32.ofNat pos)), .val (.int (Int32.ofNat c6)), .val (.int (Int32.ofNat (scan fa pos (n - pos))))] [(.int v3), (.int (Int32.ofNat (scan fa pos (n - pos))))])) t
          refine XS.icmpNo X5.here hx rfl (hb hby sta_d31) rfl (teq he').2 ?_
          show Steps p.tables e below (T5.setTop (mkF m 34 #[.val (.ref r0), .val (.int p1), .val (.int p2), .val (.int p3), .val (.int v3), .val (.int (Int32.ofNat pos)), .val (.int (Int32.ofNat c6)), .val (.int (Int32.ofNat (scan fa pos (n - pos))))] [])) t
          refine XS.iconst X5.here hx rfl (hb hby sta_d34) ?_
          exact kt
        rw [hP1] at K7
        rw [show startf fa n (k + 1) pos = -1 from if_pos he]
        exact ⟨_, _, _, T5, _, (hb hby sta_d35), X5, e5, N5, K7⟩
      · have he' : ¬ (Int32.ofNat (scan fa pos (n - pos))) = v3 := fun q => he (by have q2 := congrArg Int32.toNatClampNeg q; rw [hlim, own_ofNat_nat (by omega), own_ofNat_nat (by omega)] at q2; exact q2)
        have K8 : ∀ t, Steps p.tables e below (T5.setTop (mkF m 11 #[.val (.ref r0), .val (.int p1), .val (.int p2), .val (.int p3), .val (.int v3), .val (.int ((Int32.ofNat (scan fa pos (n - pos))) + (1 : Int32))), .val (.int ((Int32.ofNat c6) + (1 : Int32))), .val (.int (Int32.ofNat (scan fa pos (n - pos))))] [])) t → P1 t := by
          intro t kt
          refine K6 t ?_
          show Steps p.tables e below (T5.setTop (mkF m 31 #[.val (.ref r0), .val (.int p1), .val (.int p2), .val (.int p3), .val (.int v3), .val (.int (Int32.ofNat pos)), .val (.int (Int32.ofNat c6)), .val (.int (Int32.ofNat (scan fa pos (n - pos))))] [(.int v3), (.int (Int32.ofNat (scan fa pos (n - pos))))])) t
          refine XS.icmpYes X5.here hx rfl (pc0 := 31) (pc' := 36) rfl (hb hby sta_d31) rfl (feq he').2 (by decide) (by decide) ?_
          show Steps p.tables e below (T5.setTop (mkF m 36 #[.val (.ref r0), .val (.int p1), .val (.int p2), .val (.int p3), .val (.int v3), .val (.int (Int32.ofNat pos)), .val (.int (Int32.ofNat c6)), .val (.int (Int32.ofNat (scan fa pos (n - pos))))] [])) t
          refine XS.iload X5.here hx rfl (hb hby sta_d36) rfl ?_
          show Steps p.tables e below (T5.setTop (mkF m 38 #[.val (.ref r0), .val (.int p1), .val (.int p2), .val (.int p3), .val (.int v3), .val (.int (Int32.ofNat pos)), .val (.int (Int32.ofNat c6)), .val (.int (Int32.ofNat (scan fa pos (n - pos))))] [(.int (Int32.ofNat (scan fa pos (n - pos))))])) t
          refine XS.iconst X5.here hx rfl (hb hby sta_d38) ?_
          show Steps p.tables e below (T5.setTop (mkF m 39 #[.val (.ref r0), .val (.int p1), .val (.int p2), .val (.int p3), .val (.int v3), .val (.int (Int32.ofNat pos)), .val (.int (Int32.ofNat c6)), .val (.int (Int32.ofNat (scan fa pos (n - pos))))] [(.int (1 : Int32)), (.int (Int32.ofNat (scan fa pos (n - pos))))])) t
          refine XS.iadd X5.here hx rfl (hb hby sta_d39) rfl ?_
          show Steps p.tables e below (T5.setTop (mkF m 40 #[.val (.ref r0), .val (.int p1), .val (.int p2), .val (.int p3), .val (.int v3), .val (.int (Int32.ofNat pos)), .val (.int (Int32.ofNat c6)), .val (.int (Int32.ofNat (scan fa pos (n - pos))))] [(.int ((Int32.ofNat (scan fa pos (n - pos))) + (1 : Int32)))])) t
          refine XS.istore X5.here hx rfl (hb hby sta_d40) rfl (l' := #[.val (.ref r0), .val (.int p1), .val (.int p2), .val (.int p3), .val (.int v3), .val (.int ((Int32.ofNat (scan fa pos (n - pos))) + (1 : Int32))), .val (.int (Int32.ofNat c6)), .val (.int (Int32.ofNat (scan fa pos (n - pos))))]) rfl ?_
          show Steps p.tables e below (T5.setTop (mkF m 42 #[.val (.ref r0), .val (.int p1), .val (.int p2), .val (.int p3), .val (.int v3), .val (.int ((Int32.ofNat (scan fa pos (n - pos))) + (1 : Int32))), .val (.int (Int32.ofNat c6)), .val (.int (Int32.ofNat (scan fa pos (n - pos))))] [])) t
          refine XS.iinc X5.here hx rfl (hb hby sta_d42) rfl (l' := #[.val (.ref r0), .val (.int p1), .val (.int p2), .val (.int p3), .val (.int v3), .val (.int ((Int32.ofNat (scan fa pos (n - pos))) + (1 : Int32))), .val (.int ((Int32.ofNat c6) + (1 : Int32))), .val (.int (Int32.ofNat (scan fa pos (n - pos))))]) rfl ?_
          show Steps p.tables e below (T5.setTop (mkF m 45 #[.val (.ref r0), .val (.int p1), .val (.int p2), .val (.int p3), .val (.int v3), .val (.int ((Int32.ofNat (scan fa pos (n - pos))) + (1 : Int32))), .val (.int ((Int32.ofNat c6) + (1 : Int32))), .val (.int (Int32.ofNat (scan fa pos (n - pos))))] [])) t
          refine XS.goto X5.here hx rfl (pc0 := 45) (pc' := 11) rfl (hb hby sta_d45) (by decide) (by decide) ?_
          exact kt
        rw [hP1] at K8
        rw [show startf fa n (k + 1) pos = startf fa n k (scan fa pos (n - pos) + 1) from if_neg he]
        obtain ⟨pcR, LR, SR, T', lc', hd', X', e', N', K'⟩ := ih (scan fa pos (n - pos) + 1) (c6 + 1) _ _ (.val (.int (Int32.ofNat (scan fa pos (n - pos))))) T5 _ (own_ofNat_succ _) (own_ofNat_succ _) (by omega) (by omega) (One.val rfl) X5 e5 N5
        exact ⟨pcR, LR, SR, T', lc', hd', X', e', N', fun t kt => K8 t (K' t kt)⟩
  obtain ⟨pcR, LR, SR, TR, lcR, hdR, XR, eR, NR, KR⟩ := KL (col - 1) i0 1 p1 (1 : Int32) .unset s₁ _ hp1 rfl (by omega) hi0 One.u X0 e0 N0
  have KZ : ∀ t, Steps p.tables e below (TR.setTop (mkF m pcR LR (.int (startf fa n (col - 1) i0) :: SR))) t → P0 t := fun t kt => K3 t (KR t kt)
  obtain ⟨fs, hr, hrun, hended, hW, hsame⟩ := XR.leave (v := some (.int (startf fa n (col - 1) i0))) (fun h => by rw [Bd.returns] at h; cases h)
  refine ⟨_, _, ?_, hrun, hended, _, _, rfl, ?_, ⟨_, rfl⟩, hW, hsame.mono (by decide) (by decide)⟩
  · skip
    have q := KZ _ (retI XR hx Bd.returns hdR hr)
    rw [hP0] at q; exact q
  · show QP _ h0 n0 _ TR.heap _
    rw [eR]
    exact ⟨rfl, NR, rfl⟩
def bits (m : Nat) : Nat → Int32 := fun j => if m.testBit j then 9 else 0
theorem own_scan_congr {f g : Nat → Int32} : ∀ (k i : Nat), (∀ j, i ≤ j → j < i + k → (f j = 9 ↔ g j = 9)) → scan f i k = scan g i k := by
  intro k
  induction k with
  | zero => intro i _; rfl
  | succ k ih =>
    intro i h
    have hi := h i (by omega) (by omega)
    by_cases q : f i = 9
    · rw [show scan f i (k + 1) = i from if_pos q, show scan g i (k + 1) = i from if_pos (hi.mp q)]
    · rw [show scan f i (k + 1) = scan f (i + 1) k from if_neg q, show scan g i (k + 1) = scan g (i + 1) k from if_neg (fun z => q (hi.mpr z))]
      exact ih (i + 1) fun j h1 h2 => h j (by omega) (by omega)
theorem own_startf_congr {f g : Nat → Int32} {b : Nat} (h : ∀ j, j < b → (f j = 9 ↔ g j = 9)) : ∀ (k pos : Nat), pos ≤ b → startf f b k pos = startf g b k pos := by
  intro k
  induction k with
  | zero => intro pos _; rfl
  | succ k ih =>
    intro pos hp
    have e := own_scan_congr (f := f) (g := g) (b - pos) pos fun j h1 h2 => h j (by omega)
    have sc := own_scan f (b - pos) pos
    by_cases q : scan f pos (b - pos) = b
    · rw [show startf f b (k + 1) pos = -1 from if_pos q, show startf g b (k + 1) pos = -1 from if_pos (e ▸ q)]
    · rw [show startf f b (k + 1) pos = startf f b k (scan f pos (b - pos) + 1) from if_neg q, show startf g b (k + 1) pos = startf g b k (scan g pos (b - pos) + 1) from if_neg (e ▸ q), ← e]
      exact ih _ (by omega)
theorem own_bits (f : Nat → Int32) : ∃ m : Fin 64, ∀ j, j < 6 → (f j = 9 ↔ bits m.val j = 9) := by
  have key : ∀ b0 b1 b2 b3 b4 b5 : Bool, ∃ m : Fin 64, (b0 = m.val.testBit 0) ∧ (b1 = m.val.testBit 1) ∧ (b2 = m.val.testBit 2) ∧ (b3 = m.val.testBit 3) ∧ (b4 = m.val.testBit 4) ∧ (b5 = m.val.testBit 5) := by
    intro b0 b1 b2 b3 b4 b5
    have l : ∀ b0 b1 b2 b3 b4 b5 : Bool, b0.toNat + 2 * b1.toNat + 4 * b2.toNat + 8 * b3.toNat + 16 * b4.toNat + 32 * b5.toNat < 64 := by decide +kernel
    refine ⟨⟨b0.toNat + 2 * b1.toNat + 4 * b2.toNat + 8 * b3.toNat + 16 * b4.toNat + 32 * b5.toNat, l _ _ _ _ _ _⟩, ?_⟩
    have l2 : ∀ b0 b1 b2 b3 b4 b5 : Bool, (b0 = (b0.toNat + 2 * b1.toNat + 4 * b2.toNat + 8 * b3.toNat + 16 * b4.toNat + 32 * b5.toNat).testBit 0) ∧ (b1 = (b0.toNat + 2 * b1.toNat + 4 * b2.toNat + 8 * b3.toNat + 16 * b4.toNat + 32 * b5.toNat).testBit 1) ∧ (b2 = (b0.toNat + 2 * b1.toNat + 4 * b2.toNat + 8 * b3.toNat + 16 * b4.toNat + 32 * b5.toNat).testBit 2) ∧ (b3 = (b0.toNat + 2 * b1.toNat + 4 * b2.toNat + 8 * b3.toNat + 16 * b4.toNat + 32 * b5.toNat).testBit 3) ∧ (b4 = (b0.toNat + 2 * b1.toNat + 4 * b2.toNat + 8 * b3.toNat + 16 * b4.toNat + 32 * b5.toNat).testBit 4) ∧ (b5 = (b0.toNat + 2 * b1.toNat + 4 * b2.toNat + 8 * b3.toNat + 16 * b4.toNat + 32 * b5.toNat).testBit 5) := by decide +kernel
    exact l2 _ _ _ _ _ _
  obtain ⟨m, h0, h1, h2, h3, h4, h5⟩ := key (decide (f 0 = 9)) (decide (f 1 = 9)) (decide (f 2 = 9)) (decide (f 3 = 9)) (decide (f 4 = 9)) (decide (f 5 = 9))
  refine ⟨m, fun j hj => ?_⟩
  have gen : ∀ (P : Prop) [Decidable P] (t : Bool), decide P = t → (P ↔ (if t = true then (9 : Int32) else 0) = 9) := by
    intro P _ t h; subst h; by_cases p : P <;> simp [p]
  have cs : j = 0 ∨ j = 1 ∨ j = 2 ∨ j = 3 ∨ j = 4 ∨ j = 5 := by omega
  rcases cs with rfl | rfl | rfl | rfl | rfl | rfl
  · exact gen _ _ h0
  · exact gen _ _ h1
  · exact gen _ _ h2
  · exact gen _ _ h3
  · exact gen _ _ h4
  · exact gen _ _ h5
def chk (m a b col : Nat) : Bool :=
  let f := bits m
  let v73 := Int32.ofNat a
  let v93 := Int32.ofNat b
  let v102 := Int32.ofNat col
  let v114 := fT 0 v73 v93 f
  let v126 := fT 1 v73 v93 f
  let v138 := fT 2 v73 v93 f
  let v150 := fT 3 v73 v93 f
  let v162 := fT 4 v73 v93 f
  let v174 := fT 5 v73 v93 f
  let v184 := 0 + v114
  let v191 := v184 + v126
  let v198 := v191 + v138
  let v205 := v198 + v150
  let v212 := v205 + v162
  let j226 := if v102 = 1 then v73 else -1
  let v240 := fPk j226 v114 0 v102 0
  let v254 := fPk v240 v126 v184 v102 1
  let v268 := fPk v254 v138 v191 v102 2
  let v282 := fPk v268 v150 v198 v102 3
  let v296 := fPk v282 v162 v205 v102 4
  let v310 := fPk v296 v174 v212 v102 5
  decide (startf f b (col - 1) a = v310)
theorem own_all : ∀ (m : Fin 64) (b : Fin 7) (a : Fin 7) (c : Fin 8), a.val ≤ b.val → chk m.val a.val b.val (c.val + 1) = true := by decide +kernel
theorem own_fT_congr {f g : Nat → Int32} {a b : Nat} (hb : b ≤ 6) (h : ∀ j, j < 6 → (f j = 9 ↔ g j = 9)) (i : Nat) (hi : i < 6) : fT (Int32.ofNat i) (Int32.ofNat a) (Int32.ofNat b) f = fT (Int32.ofNat i) (Int32.ofNat a) (Int32.ofNat b) g := by
  simp only [fT]
  rw [own_ofNat_nat (by omega)]
  have q := h i hi
  by_cases z : f i = 9
  · rw [if_pos z, if_pos (q.mp z)]
  · rw [if_neg z, if_neg (fun w => z (q.mpr w))]
theorem own_plain (q0 : Int64) (p1 : Int32) (p2 : Int32) (p3 : Int32) (p4 : Int32) (f2 : Nat → Int32) (f15 : Nat → Int32) (f25 : Nat → Int32) (f35 : Nat → Int32) (f45 : Nat → Int32) (f55 : Nat → Int32) (f65 : Nat → Int32) (v73 : Int32) (v86 : Int32) (v93 : Int32) (v102 : Int32) (a : Nat) (b : Nat) (col : Nat) (v114 : Int32) (v126 : Int32) (v138 : Int32) (v150 : Int32) (v162 : Int32) (v174 : Int32) (v184 : Int32) (v191 : Int32) (v198 : Int32) (v205 : Int32) (v212 : Int32) (j226_s0 : Int32) (v240 : Int32) (v254 : Int32) (v268 : Int32) (v282 : Int32) (v296 : Int32) (v310 : Int32) (j333_s0 : Int32)
    (hf2 : f2 = (fun _ => (0 : Int32)))
    (hf15 : f15 = (upd f2 ((0 : Int32)).toNatClampNeg (nar .byte (fB q0 p1 (0 : Int32)))))
    (hf25 : f25 = (upd f15 ((1 : Int32)).toNatClampNeg (nar .byte (fB q0 p1 (1 : Int32)))))
    (hf35 : f35 = (upd f25 ((2 : Int32)).toNatClampNeg (nar .byte (fB q0 p1 (2 : Int32)))))
    (hf45 : f45 = (upd f35 ((3 : Int32)).toNatClampNeg (nar .byte (fB q0 p1 (3 : Int32)))))
    (hf55 : f55 = (upd f45 ((4 : Int32)).toNatClampNeg (nar .byte (fB q0 p1 (4 : Int32)))))
    (hf65 : f65 = (upd f55 ((5 : Int32)).toNatClampNeg (nar .byte (fB q0 p1 (5 : Int32)))))
    (hv73 : v73 = ((p2 &&& (2147483647 : Int32)) % (7 : Int32)))
    (hv86 : v86 = ((p3 &&& (2147483647 : Int32)) % ((7 : Int32) - v73)))
    (hv93 : v93 = (v73 + v86))
    (hv102 : v102 = ((p4 &&& (7 : Int32)) + (1 : Int32)))
    (hna : v73 = Int32.ofNat a)
    (hnb : v93 = Int32.ofNat b)
    (hab : a ≤ b)
    (hb6 : b ≤ 6)
    (hcol : v102 = Int32.ofNat col)
    (hc1 : 1 ≤ col)
    (hc8 : col ≤ 8)
    (hv114 : v114 = (fT (0 : Int32) v73 v93 f65))
    (hv126 : v126 = (fT (1 : Int32) v73 v93 f65))
    (hv138 : v138 = (fT (2 : Int32) v73 v93 f65))
    (hv150 : v150 = (fT (3 : Int32) v73 v93 f65))
    (hv162 : v162 = (fT (4 : Int32) v73 v93 f65))
    (hv174 : v174 = (fT (5 : Int32) v73 v93 f65))
    (hv184 : v184 = ((0 : Int32) + v114))
    (hv191 : v191 = (v184 + v126))
    (hv198 : v198 = (v191 + v138))
    (hv205 : v205 = (v198 + v150))
    (hv212 : v212 = (v205 + v162))
    (hj226_s0 : j226_s0 = (if v102 = (1 : Int32) then v73 else (-1 : Int32)))
    (hv240 : v240 = (fPk j226_s0 v114 (0 : Int32) v102 (0 : Int32)))
    (hv254 : v254 = (fPk v240 v126 v184 v102 (1 : Int32)))
    (hv268 : v268 = (fPk v254 v138 v191 v102 (2 : Int32)))
    (hv282 : v282 = (fPk v268 v150 v198 v102 (3 : Int32)))
    (hv296 : v296 = (fPk v282 v162 v205 v102 (4 : Int32)))
    (hv310 : v310 = (fPk v296 v174 v212 v102 (5 : Int32)))
    (hj333_s0 : j333_s0 = (if (startf f65 b (col - 1) a) = v310 then (1 : Int32) else (0 : Int32))) :
    j333_s0 = 1 := by
  obtain ⟨m, hm⟩ := own_bits f65
  have k0 : fT (0 : Int32) v73 v93 f65 = fT 0 v73 v93 (bits m.val) := by rw [hna, hnb]; exact own_fT_congr hb6 hm 0 (by decide)
  have k1 : fT (1 : Int32) v73 v93 f65 = fT 1 v73 v93 (bits m.val) := by rw [hna, hnb]; exact own_fT_congr hb6 hm 1 (by decide)
  have k2 : fT (2 : Int32) v73 v93 f65 = fT 2 v73 v93 (bits m.val) := by rw [hna, hnb]; exact own_fT_congr hb6 hm 2 (by decide)
  have k3 : fT (3 : Int32) v73 v93 f65 = fT 3 v73 v93 (bits m.val) := by rw [hna, hnb]; exact own_fT_congr hb6 hm 3 (by decide)
  have k4 : fT (4 : Int32) v73 v93 f65 = fT 4 v73 v93 (bits m.val) := by rw [hna, hnb]; exact own_fT_congr hb6 hm 4 (by decide)
  have k5 : fT (5 : Int32) v73 v93 f65 = fT 5 v73 v93 (bits m.val) := by rw [hna, hnb]; exact own_fT_congr hb6 hm 5 (by decide)
  have ks := own_startf_congr (f := f65) (g := bits m.val) (b := b) (fun j hj => hm j (by omega)) (col - 1) a hab
  have h := own_all m ⟨b, by omega⟩ ⟨a, by omega⟩ ⟨col - 1, by omega⟩ hab
  rw [show (⟨col - 1, by omega⟩ : Fin 8).val + 1 = col by show col - 1 + 1 = col; omega] at h
  simp only [chk, decide_eq_true_eq] at h
  rw [← hna, ← hnb, ← hcol, ← k0, ← k1, ← k2, ← k3, ← k4, ← k5, ← ks, ← hv114, ← hv126, ← hv138, ← hv150, ← hv162, ← hv174, ← hv184, ← hv191, ← hv198, ← hv205, ← hv212, ← hj226_s0, ← hv240, ← hv254, ← hv268, ← hv282, ← hv296, ← hv310] at h
  rw [hj333_s0, if_pos h]
theorem law_pn : plainName "com/example/lowtide/lowtide/ColumnsStartPinLaw" = true := by first | (simp [plainName, overriddenIn]; done) | decide +kernel
theorem law_pd0 : parseMethodDescriptor "(JII)B" = some ⟨[.long, .int, .int], some .byte⟩ := by decide +kernel
theorem law_pd1 : parseMethodDescriptor "([BIII)I" = some ⟨[(.array .byte), .int, .int, .int], some .int⟩ := by decide +kernel
theorem law_pd2 : parseMethodDescriptor "(IIIII)I" = some ⟨[.int, .int, .int, .int, .int], some .int⟩ := by decide +kernel
theorem law_ef (m : MethodId) (x0 : Int64) (x1 : Int32) (x2 : Int32) (x3 : Int32) (x4 : Int32) : entryFrame m #[(.long x0), (.int x1), (.int x2), (.int x3), (.int x4)] maxLocals = mkF m 0 #[.val (.long x0), .second, .val (.int x1), .val (.int x2), .val (.int x3), .val (.int x4), .unset, .unset, .unset, .unset, .unset, .unset, .unset, .unset, .unset, .unset, .unset, .unset, .unset, .unset, .unset, .unset, .unset, .unset] [] := by first | (simp [entryFrame, mkF, argsToLocals, Value.category, maxLocals]; done) | rfl
set_option maxRecDepth 65536 in
set_option maxHeartbeats 40000000 in
theorem rm_law (l : Launch) (Z : State) (a0 : Array Value) (hw : ∀ d ∈ tables_1, d.before a0 Z = true) (ws : List Jvm.Cond) (q0 : Int64) (p1 : Int32) (p2 : Int32) (p3 : Int32) (p4 : Int32) (h0 : Heap) (n0 : Nat) (Z0 : n0 ≤ h0.size) :
    MetFree l x (head1 (Jvm.Cond.code x code maxLocals ret :: ws) room_1) (fun a U => a = #[(.long q0), (.int p1), (.int p2), (.int p3), (.int p4)] ∧ Z.Warmed39 U.vm ∧ U.heap = h0) (fun _ _ _ _ _ => True) (fun _ U o U' => ∃ v L, o = .returned v ∧ QL n0 v U'.heap L ∧ FrameEnd U o U' L room_1.cells room_1.slots) := by
  refine MetFree.of_bodySF (plainFor_of_name law_pn) hisR ?_
  intro p e s m args below meth c s₁ Bd hml0 hP hK
  obtain ⟨rfl, hZ, hh⟩ := hP
  have hx := Bd.exec
  have hby := Bd.bytes
  have hml : c.maxLocals = 24 := hml0
  have hown : s.vm.findClass "com/example/lowtide/lowtide/ColumnsStartPinLaw" = some m.cls := findClass_of_methodNamed Bd.named
  have hnm := (name_of_methodNamed Bd.named Bd.method).1
  have X0 : Stand p l e room_1 s m #[(.long q0), (.int p1), (.int p2), (.int p3), (.int p4)] below meth c s₁ [] 0 0 := Stand.of_body Bd
  have e0 : s₁.heap = h0 := by rw [← hh, Bd.state]; rfl
  have N0 := Fr.nil n0
  obtain ⟨P0, hP0⟩ : ∃ P0 : State → Prop, P0 = fun t => Steps p.tables e below (s₁.setTop (entryFrame m #[(.long q0), (.int p1), (.int p2), (.int p3), (.int p4)] maxLocals)) t := ⟨_, rfl⟩
  have K0 : ∀ t, Steps p.tables e below (s₁.setTop (mkF m 0 #[.val (.long q0), .second, .val (.int p1), .val (.int p2), .val (.int p3), .val (.int p4), .unset, .unset, .unset, .unset, .unset, .unset, .unset, .unset, .unset, .unset, .unset, .unset, .unset, .unset, .unset, .unset, .unset, .unset] [])) t → P0 t := by
    intro t k; rw [hP0]; exact castTop (law_ef m q0 p1 p2 p3 p4) k
  obtain ⟨T1, h1, k1, X1, e1, E1, A1, st1⟩ := newP X0 hx hZ (hw _ (List.mem_of_getElem? (i := 0) rfl)) e0 (g := (mkF m 2 #[.val (.long q0), .second, .val (.int p1), .val (.int p2), .val (.int p3), .val (.int p4), .unset, .unset, .unset, .unset, .unset, .unset, .unset, .unset, .unset, .unset, .unset, .unset, .unset, .unset, .unset, .unset, .unset, .unset] [(.int (6 : Int32))])) rfl (hb hby at_2) rfl (by decide) (cap := 6) (by decide) (by decide) (by decide) (by decide)
  obtain ⟨b2, g1⟩ : ∃ z, z = h0.size := ⟨_, rfl⟩
  have g_b2 : n0 ≤ b2 := Nat.le_trans Z0 (Nat.le_of_eq g1.symm)
  rw [← g1] at A1 st1
  have Z1 : n0 ≤ h1.size := Nat.le_trans Z0 E1.1
  obtain ⟨f2, hf2, V1⟩ : ∃ f2 : Nat → Int32, f2 = (fun _ => 0) ∧ IA Z h1 b2 .byte 6 f2 := ⟨_, rfl, IA.new A1 rfl rfl (by decide)⟩
  obtain ⟨_, _, ⟨T2, L2, k2, n2⟩, -, X2, ⟨Lc2, hQ2, l2, y2, z2⟩, st2⟩ := Jvm.LawKit.callS X1 hx (y := (⟨"com/example/lowtide/lowtide/ColumnsStartPinLaw", "b", "(JII)B"⟩ : MethodName)) hown (mvT hZ (hw _ (List.mem_of_getElem? (i := 1) rfl))) (mvT hZ (hw _ (List.mem_of_getElem? (i := 2) rfl))) (mvT hZ (hw _ (List.mem_of_getElem? (i := 3) rfl))) (mvT hZ (hw _ (List.mem_of_getElem? (i := 4) rfl))) (by decide) (backOf (W := 2) (rm_bbb l Z a0 hw [] q0 p1 (0 : Int32) h1 n0 Z1 ) hZ (hw _ (List.mem_of_getElem? (i := 4) rfl)) (hw _ (List.mem_of_getElem? (i := 3) rfl)) (by decide) (by decide)) (g := (mkF m 12 #[.val (.long q0), .second, .val (.int p1), .val (.int p2), .val (.int p3), .val (.int p4), .val (.ref b2), .unset, .unset, .unset, .unset, .unset, .unset, .unset, .unset, .unset, .unset, .unset, .unset, .unset, .unset, .unset, .unset, .unset] [(.int (0 : Int32)), (.int p1), (.long q0), (.int (0 : Int32)), (.ref b2)])) rfl (by rw [hml]; rfl) (argsL := [(.long q0), (.int p1), (.int (0 : Int32))]) (rest := [(.int (0 : Int32)), (.ref b2)]) (lenOf law_pd0 rfl) rfl (by show 2 * 0 + _ ≤ _; exact Nat.le_of_eq rfl) (hb hby at_12) (fun _ _ => ⟨rfl, e1, (by decide : 1 + 0 ≤ _), (by decide : 6 + 0 ≤ _)⟩)
  dsimp only [Pt.U, Pt.locs, Pt.cells, Pt.slots] at X2 l2 y2 z2 st2 hQ2
  rw [l2, y2, z2] at X2
  obtain ⟨rfl, N2q, e2⟩ := hQ2
  have N2 := Fr.app N0 N2q
  obtain ⟨T3, h3, X3, e3, ⟨sl3, vv3, W3⟩, V3, st3⟩ := stBA X2 hx hZ e2 V1 (j := (0 : Int32)) (x := (fB q0 p1 (0 : Int32))) (by decide) (g := (mkF m 15 #[.val (.long q0), .second, .val (.int p1), .val (.int p2), .val (.int p3), .val (.int p4), .val (.ref b2), .unset, .unset, .unset, .unset, .unset, .unset, .unset, .unset, .unset, .unset, .unset, .unset, .unset, .unset, .unset, .unset, .unset] [(.int (fB q0 p1 (0 : Int32))), (.int (0 : Int32)), (.ref b2)])) rfl rfl (hb hby at_15)
  have Z3 : n0 ≤ h3.size := Nat.le_trans Z1 (Keep.of_wr W3).1
  have N3 := Fr.snoc X3 N2 g_b2
  obtain ⟨f15, hf15, V3'⟩ : ∃ f15 : Nat → Int32, f15 = (upd f2 ((0 : Int32)).toNatClampNeg (nar .byte (fB q0 p1 (0 : Int32)))) ∧ IA Z h3 b2 .byte 6 f15 := ⟨_, rfl, V3⟩
  obtain ⟨_, _, ⟨T4, L4, k4, n4⟩, -, X4, ⟨Lc4, hQ4, l4, y4, z4⟩, st4⟩ := Jvm.LawKit.callS X3 hx (y := (⟨"com/example/lowtide/lowtide/ColumnsStartPinLaw", "b", "(JII)B"⟩ : MethodName)) hown (mvT hZ (hw _ (List.mem_of_getElem? (i := 1) rfl))) (mvT hZ (hw _ (List.mem_of_getElem? (i := 2) rfl))) (mvT hZ (hw _ (List.mem_of_getElem? (i := 3) rfl))) (mvT hZ (hw _ (List.mem_of_getElem? (i := 4) rfl))) (by decide) (backOf (W := 2) (rm_bbb l Z a0 hw [] q0 p1 (1 : Int32) h3 n0 Z3 ) hZ (hw _ (List.mem_of_getElem? (i := 4) rfl)) (hw _ (List.mem_of_getElem? (i := 3) rfl)) (by decide) (by decide)) (g := (mkF m 22 #[.val (.long q0), .second, .val (.int p1), .val (.int p2), .val (.int p3), .val (.int p4), .val (.ref b2), .unset, .unset, .unset, .unset, .unset, .unset, .unset, .unset, .unset, .unset, .unset, .unset, .unset, .unset, .unset, .unset, .unset] [(.int (1 : Int32)), (.int p1), (.long q0), (.int (1 : Int32)), (.ref b2)])) rfl (by rw [hml]; rfl) (argsL := [(.long q0), (.int p1), (.int (1 : Int32))]) (rest := [(.int (1 : Int32)), (.ref b2)]) (lenOf law_pd0 rfl) rfl (by show 2 * 0 + _ ≤ _; exact Nat.le_of_eq rfl) (hb hby at_22) (fun _ _ => ⟨rfl, e3, (by decide : 1 + 0 ≤ _), (by decide : 6 + 0 ≤ _)⟩)
  dsimp only [Pt.U, Pt.locs, Pt.cells, Pt.slots] at X4 l4 y4 z4 st4 hQ4
  rw [l4, y4, z4] at X4
  obtain ⟨rfl, N4q, e4⟩ := hQ4
  have N4 := Fr.app N3 N4q
  obtain ⟨T5, h5, X5, e5, ⟨sl5, vv5, W5⟩, V5, st5⟩ := stBA X4 hx hZ e4 V3' (j := (1 : Int32)) (x := (fB q0 p1 (1 : Int32))) (by decide) (g := (mkF m 25 #[.val (.long q0), .second, .val (.int p1), .val (.int p2), .val (.int p3), .val (.int p4), .val (.ref b2), .unset, .unset, .unset, .unset, .unset, .unset, .unset, .unset, .unset, .unset, .unset, .unset, .unset, .unset, .unset, .unset, .unset] [(.int (fB q0 p1 (1 : Int32))), (.int (1 : Int32)), (.ref b2)])) rfl rfl (hb hby at_25)
  have Z5 : n0 ≤ h5.size := Nat.le_trans Z3 (Keep.of_wr W5).1
  have N5 := Fr.snoc X5 N4 g_b2
  obtain ⟨f25, hf25, V5'⟩ : ∃ f25 : Nat → Int32, f25 = (upd f15 ((1 : Int32)).toNatClampNeg (nar .byte (fB q0 p1 (1 : Int32)))) ∧ IA Z h5 b2 .byte 6 f25 := ⟨_, rfl, V5⟩
  obtain ⟨_, _, ⟨T6, L6, k6, n6⟩, -, X6, ⟨Lc6, hQ6, l6, y6, z6⟩, st6⟩ := Jvm.LawKit.callS X5 hx (y := (⟨"com/example/lowtide/lowtide/ColumnsStartPinLaw", "b", "(JII)B"⟩ : MethodName)) hown (mvT hZ (hw _ (List.mem_of_getElem? (i := 1) rfl))) (mvT hZ (hw _ (List.mem_of_getElem? (i := 2) rfl))) (mvT hZ (hw _ (List.mem_of_getElem? (i := 3) rfl))) (mvT hZ (hw _ (List.mem_of_getElem? (i := 4) rfl))) (by decide) (backOf (W := 2) (rm_bbb l Z a0 hw [] q0 p1 (2 : Int32) h5 n0 Z5 ) hZ (hw _ (List.mem_of_getElem? (i := 4) rfl)) (hw _ (List.mem_of_getElem? (i := 3) rfl)) (by decide) (by decide)) (g := (mkF m 32 #[.val (.long q0), .second, .val (.int p1), .val (.int p2), .val (.int p3), .val (.int p4), .val (.ref b2), .unset, .unset, .unset, .unset, .unset, .unset, .unset, .unset, .unset, .unset, .unset, .unset, .unset, .unset, .unset, .unset, .unset] [(.int (2 : Int32)), (.int p1), (.long q0), (.int (2 : Int32)), (.ref b2)])) rfl (by rw [hml]; rfl) (argsL := [(.long q0), (.int p1), (.int (2 : Int32))]) (rest := [(.int (2 : Int32)), (.ref b2)]) (lenOf law_pd0 rfl) rfl (by show 2 * 0 + _ ≤ _; exact Nat.le_of_eq rfl) (hb hby at_32) (fun _ _ => ⟨rfl, e5, (by decide : 1 + 0 ≤ _), (by decide : 6 + 0 ≤ _)⟩)
  dsimp only [Pt.U, Pt.locs, Pt.cells, Pt.slots] at X6 l6 y6 z6 st6 hQ6
  rw [l6, y6, z6] at X6
  obtain ⟨rfl, N6q, e6⟩ := hQ6
  have N6 := Fr.app N5 N6q
  obtain ⟨T7, h7, X7, e7, ⟨sl7, vv7, W7⟩, V7, st7⟩ := stBA X6 hx hZ e6 V5' (j := (2 : Int32)) (x := (fB q0 p1 (2 : Int32))) (by decide) (g := (mkF m 35 #[.val (.long q0), .second, .val (.int p1), .val (.int p2), .val (.int p3), .val (.int p4), .val (.ref b2), .unset, .unset, .unset, .unset, .unset, .unset, .unset, .unset, .unset, .unset, .unset, .unset, .unset, .unset, .unset, .unset, .unset] [(.int (fB q0 p1 (2 : Int32))), (.int (2 : Int32)), (.ref b2)])) rfl rfl (hb hby at_35)
  have Z7 : n0 ≤ h7.size := Nat.le_trans Z5 (Keep.of_wr W7).1
  have N7 := Fr.snoc X7 N6 g_b2
  obtain ⟨f35, hf35, V7'⟩ : ∃ f35 : Nat → Int32, f35 = (upd f25 ((2 : Int32)).toNatClampNeg (nar .byte (fB q0 p1 (2 : Int32)))) ∧ IA Z h7 b2 .byte 6 f35 := ⟨_, rfl, V7⟩
  obtain ⟨_, _, ⟨T8, L8, k8, n8⟩, -, X8, ⟨Lc8, hQ8, l8, y8, z8⟩, st8⟩ := Jvm.LawKit.callS X7 hx (y := (⟨"com/example/lowtide/lowtide/ColumnsStartPinLaw", "b", "(JII)B"⟩ : MethodName)) hown (mvT hZ (hw _ (List.mem_of_getElem? (i := 1) rfl))) (mvT hZ (hw _ (List.mem_of_getElem? (i := 2) rfl))) (mvT hZ (hw _ (List.mem_of_getElem? (i := 3) rfl))) (mvT hZ (hw _ (List.mem_of_getElem? (i := 4) rfl))) (by decide) (backOf (W := 2) (rm_bbb l Z a0 hw [] q0 p1 (3 : Int32) h7 n0 Z7 ) hZ (hw _ (List.mem_of_getElem? (i := 4) rfl)) (hw _ (List.mem_of_getElem? (i := 3) rfl)) (by decide) (by decide)) (g := (mkF m 42 #[.val (.long q0), .second, .val (.int p1), .val (.int p2), .val (.int p3), .val (.int p4), .val (.ref b2), .unset, .unset, .unset, .unset, .unset, .unset, .unset, .unset, .unset, .unset, .unset, .unset, .unset, .unset, .unset, .unset, .unset] [(.int (3 : Int32)), (.int p1), (.long q0), (.int (3 : Int32)), (.ref b2)])) rfl (by rw [hml]; rfl) (argsL := [(.long q0), (.int p1), (.int (3 : Int32))]) (rest := [(.int (3 : Int32)), (.ref b2)]) (lenOf law_pd0 rfl) rfl (by show 2 * 0 + _ ≤ _; exact Nat.le_of_eq rfl) (hb hby at_42) (fun _ _ => ⟨rfl, e7, (by decide : 1 + 0 ≤ _), (by decide : 6 + 0 ≤ _)⟩)
  dsimp only [Pt.U, Pt.locs, Pt.cells, Pt.slots] at X8 l8 y8 z8 st8 hQ8
  rw [l8, y8, z8] at X8
  obtain ⟨rfl, N8q, e8⟩ := hQ8
  have N8 := Fr.app N7 N8q
  obtain ⟨T9, h9, X9, e9, ⟨sl9, vv9, W9⟩, V9, st9⟩ := stBA X8 hx hZ e8 V7' (j := (3 : Int32)) (x := (fB q0 p1 (3 : Int32))) (by decide) (g := (mkF m 45 #[.val (.long q0), .second, .val (.int p1), .val (.int p2), .val (.int p3), .val (.int p4), .val (.ref b2), .unset, .unset, .unset, .unset, .unset, .unset, .unset, .unset, .unset, .unset, .unset, .unset, .unset, .unset, .unset, .unset, .unset] [(.int (fB q0 p1 (3 : Int32))), (.int (3 : Int32)), (.ref b2)])) rfl rfl (hb hby at_45)
  have Z9 : n0 ≤ h9.size := Nat.le_trans Z7 (Keep.of_wr W9).1
  have N9 := Fr.snoc X9 N8 g_b2
  obtain ⟨f45, hf45, V9'⟩ : ∃ f45 : Nat → Int32, f45 = (upd f35 ((3 : Int32)).toNatClampNeg (nar .byte (fB q0 p1 (3 : Int32)))) ∧ IA Z h9 b2 .byte 6 f45 := ⟨_, rfl, V9⟩
  obtain ⟨_, _, ⟨T10, L10, k10, n10⟩, -, X10, ⟨Lc10, hQ10, l10, y10, z10⟩, st10⟩ := Jvm.LawKit.callS X9 hx (y := (⟨"com/example/lowtide/lowtide/ColumnsStartPinLaw", "b", "(JII)B"⟩ : MethodName)) hown (mvT hZ (hw _ (List.mem_of_getElem? (i := 1) rfl))) (mvT hZ (hw _ (List.mem_of_getElem? (i := 2) rfl))) (mvT hZ (hw _ (List.mem_of_getElem? (i := 3) rfl))) (mvT hZ (hw _ (List.mem_of_getElem? (i := 4) rfl))) (by decide) (backOf (W := 2) (rm_bbb l Z a0 hw [] q0 p1 (4 : Int32) h9 n0 Z9 ) hZ (hw _ (List.mem_of_getElem? (i := 4) rfl)) (hw _ (List.mem_of_getElem? (i := 3) rfl)) (by decide) (by decide)) (g := (mkF m 52 #[.val (.long q0), .second, .val (.int p1), .val (.int p2), .val (.int p3), .val (.int p4), .val (.ref b2), .unset, .unset, .unset, .unset, .unset, .unset, .unset, .unset, .unset, .unset, .unset, .unset, .unset, .unset, .unset, .unset, .unset] [(.int (4 : Int32)), (.int p1), (.long q0), (.int (4 : Int32)), (.ref b2)])) rfl (by rw [hml]; rfl) (argsL := [(.long q0), (.int p1), (.int (4 : Int32))]) (rest := [(.int (4 : Int32)), (.ref b2)]) (lenOf law_pd0 rfl) rfl (by show 2 * 0 + _ ≤ _; exact Nat.le_of_eq rfl) (hb hby at_52) (fun _ _ => ⟨rfl, e9, (by decide : 1 + 0 ≤ _), (by decide : 6 + 0 ≤ _)⟩)
  dsimp only [Pt.U, Pt.locs, Pt.cells, Pt.slots] at X10 l10 y10 z10 st10 hQ10
  rw [l10, y10, z10] at X10
  obtain ⟨rfl, N10q, e10⟩ := hQ10
  have N10 := Fr.app N9 N10q
  obtain ⟨T11, h11, X11, e11, ⟨sl11, vv11, W11⟩, V11, st11⟩ := stBA X10 hx hZ e10 V9' (j := (4 : Int32)) (x := (fB q0 p1 (4 : Int32))) (by decide) (g := (mkF m 55 #[.val (.long q0), .second, .val (.int p1), .val (.int p2), .val (.int p3), .val (.int p4), .val (.ref b2), .unset, .unset, .unset, .unset, .unset, .unset, .unset, .unset, .unset, .unset, .unset, .unset, .unset, .unset, .unset, .unset, .unset] [(.int (fB q0 p1 (4 : Int32))), (.int (4 : Int32)), (.ref b2)])) rfl rfl (hb hby at_55)
  have Z11 : n0 ≤ h11.size := Nat.le_trans Z9 (Keep.of_wr W11).1
  have N11 := Fr.snoc X11 N10 g_b2
  obtain ⟨f55, hf55, V11'⟩ : ∃ f55 : Nat → Int32, f55 = (upd f45 ((4 : Int32)).toNatClampNeg (nar .byte (fB q0 p1 (4 : Int32)))) ∧ IA Z h11 b2 .byte 6 f55 := ⟨_, rfl, V11⟩
  obtain ⟨_, _, ⟨T12, L12, k12, n12⟩, -, X12, ⟨Lc12, hQ12, l12, y12, z12⟩, st12⟩ := Jvm.LawKit.callS X11 hx (y := (⟨"com/example/lowtide/lowtide/ColumnsStartPinLaw", "b", "(JII)B"⟩ : MethodName)) hown (mvT hZ (hw _ (List.mem_of_getElem? (i := 1) rfl))) (mvT hZ (hw _ (List.mem_of_getElem? (i := 2) rfl))) (mvT hZ (hw _ (List.mem_of_getElem? (i := 3) rfl))) (mvT hZ (hw _ (List.mem_of_getElem? (i := 4) rfl))) (by decide) (backOf (W := 2) (rm_bbb l Z a0 hw [] q0 p1 (5 : Int32) h11 n0 Z11 ) hZ (hw _ (List.mem_of_getElem? (i := 4) rfl)) (hw _ (List.mem_of_getElem? (i := 3) rfl)) (by decide) (by decide)) (g := (mkF m 62 #[.val (.long q0), .second, .val (.int p1), .val (.int p2), .val (.int p3), .val (.int p4), .val (.ref b2), .unset, .unset, .unset, .unset, .unset, .unset, .unset, .unset, .unset, .unset, .unset, .unset, .unset, .unset, .unset, .unset, .unset] [(.int (5 : Int32)), (.int p1), (.long q0), (.int (5 : Int32)), (.ref b2)])) rfl (by rw [hml]; rfl) (argsL := [(.long q0), (.int p1), (.int (5 : Int32))]) (rest := [(.int (5 : Int32)), (.ref b2)]) (lenOf law_pd0 rfl) rfl (by show 2 * 0 + _ ≤ _; exact Nat.le_of_eq rfl) (hb hby at_62) (fun _ _ => ⟨rfl, e11, (by decide : 1 + 0 ≤ _), (by decide : 6 + 0 ≤ _)⟩)
  dsimp only [Pt.U, Pt.locs, Pt.cells, Pt.slots] at X12 l12 y12 z12 st12 hQ12
  rw [l12, y12, z12] at X12
  obtain ⟨rfl, N12q, e12⟩ := hQ12
  have N12 := Fr.app N11 N12q
  obtain ⟨T13, h13, X13, e13, ⟨sl13, vv13, W13⟩, V13, st13⟩ := stBA X12 hx hZ e12 V11' (j := (5 : Int32)) (x := (fB q0 p1 (5 : Int32))) (by decide) (g := (mkF m 65 #[.val (.long q0), .second, .val (.int p1), .val (.int p2), .val (.int p3), .val (.int p4), .val (.ref b2), .unset, .unset, .unset, .unset, .unset, .unset, .unset, .unset, .unset, .unset, .unset, .unset, .unset, .unset, .unset, .unset, .unset] [(.int (fB q0 p1 (5 : Int32))), (.int (5 : Int32)), (.ref b2)])) rfl rfl (hb hby at_65)
  have Z13 : n0 ≤ h13.size := Nat.le_trans Z11 (Keep.of_wr W13).1
  have N13 := Fr.snoc X13 N12 g_b2
  obtain ⟨f65, hf65, V13'⟩ : ∃ f65 : Nat → Int32, f65 = (upd f55 ((5 : Int32)).toNatClampNeg (nar .byte (fB q0 p1 (5 : Int32)))) ∧ IA Z h13 b2 .byte 6 f65 := ⟨_, rfl, V13⟩
  have K14 : ∀ t, Steps p.tables e below (T13.setTop (mkF m 75 #[.val (.long q0), .second, .val (.int p1), .val (.int p2), .val (.int p3), .val (.int p4), .val (.ref b2), .val (.int ((p2 &&& (2147483647 : Int32)) % (7 : Int32))), .unset, .unset, .unset, .unset, .unset, .unset, .unset, .unset, .unset, .unset, .unset, .unset, .unset, .unset, .unset, .unset] [])) t → P0 t := by
    intro t kt
    refine K0 t ?_
    show Steps p.tables e below (s₁.setTop (mkF m 0 #[.val (.long q0), .second, .val (.int p1), .val (.int p2), .val (.int p3), .val (.int p4), .unset, .unset, .unset, .unset, .unset, .unset, .unset, .unset, .unset, .unset, .unset, .unset, .unset, .unset, .unset, .unset, .unset, .unset] [])) t
    refine XS.bipush X0.here hx rfl (hb hby at_0) ?_
    show Steps p.tables e below (s₁.setTop (mkF m 2 #[.val (.long q0), .second, .val (.int p1), .val (.int p2), .val (.int p3), .val (.int p4), .unset, .unset, .unset, .unset, .unset, .unset, .unset, .unset, .unset, .unset, .unset, .unset, .unset, .unset, .unset, .unset, .unset, .unset] [(.int (6 : Int32))])) t
    refine st1 _ ?_
    show Steps p.tables e below (T1.setTop (mkF m 4 #[.val (.long q0), .second, .val (.int p1), .val (.int p2), .val (.int p3), .val (.int p4), .unset, .unset, .unset, .unset, .unset, .unset, .unset, .unset, .unset, .unset, .unset, .unset, .unset, .unset, .unset, .unset, .unset, .unset] [(.ref b2)])) t
    refine XS.astore X1.here hx rfl (hb hby at_4) rfl rfl (l' := #[.val (.long q0), .second, .val (.int p1), .val (.int p2), .val (.int p3), .val (.int p4), .val (.ref b2), .unset, .unset, .unset, .unset, .unset, .unset, .unset, .unset, .unset, .unset, .unset, .unset, .unset, .unset, .unset, .unset, .unset]) rfl ?_
    show Steps p.tables e below (T1.setTop (mkF m 6 #[.val (.long q0), .second, .val (.int p1), .val (.int p2), .val (.int p3), .val (.int p4), .val (.ref b2), .unset, .unset, .unset, .unset, .unset, .unset, .unset, .unset, .unset, .unset, .unset, .unset, .unset, .unset, .unset, .unset, .unset] [])) t
    refine XS.aload X1.here hx rfl (hb hby at_6) rfl rfl ?_
    show Steps p.tables e below (T1.setTop (mkF m 8 #[.val (.long q0), .second, .val (.int p1), .val (.int p2), .val (.int p3), .val (.int p4), .val (.ref b2), .unset, .unset, .unset, .unset, .unset, .unset, .unset, .unset, .unset, .unset, .unset, .unset, .unset, .unset, .unset, .unset, .unset] [(.ref b2)])) t
    refine XS.iconst X1.here hx rfl (hb hby at_8) ?_
    show Steps p.tables e below (T1.setTop (mkF m 9 #[.val (.long q0), .second, .val (.int p1), .val (.int p2), .val (.int p3), .val (.int p4), .val (.ref b2), .unset, .unset, .unset, .unset, .unset, .unset, .unset, .unset, .unset, .unset, .unset, .unset, .unset, .unset, .unset, .unset, .unset] [(.int (0 : Int32)), (.ref b2)])) t
    refine XS.lloadN X1.here hx rfl (hb hby at_9) rfl ?_
    show Steps p.tables e below (T1.setTop (mkF m 10 #[.val (.long q0), .second, .val (.int p1), .val (.int p2), .val (.int p3), .val (.int p4), .val (.ref b2), .unset, .unset, .unset, .unset, .unset, .unset, .unset, .unset, .unset, .unset, .unset, .unset, .unset, .unset, .unset, .unset, .unset] [(.long q0), (.int (0 : Int32)), (.ref b2)])) t
    refine XS.iloadN X1.here hx rfl (hb hby at_10) rfl ?_
    show Steps p.tables e below (T1.setTop (mkF m 11 #[.val (.long q0), .second, .val (.int p1), .val (.int p2), .val (.int p3), .val (.int p4), .val (.ref b2), .unset, .unset, .unset, .unset, .unset, .unset, .unset, .unset, .unset, .unset, .unset, .unset, .unset, .unset, .unset, .unset, .unset] [(.int p1), (.long q0), (.int (0 : Int32)), (.ref b2)])) t
    refine XS.iconst X1.here hx rfl (hb hby at_11) ?_
    show Steps p.tables e below (T1.setTop (mkF m 12 #[.val (.long q0), .second, .val (.int p1), .val (.int p2), .val (.int p3), .val (.int p4), .val (.ref b2), .unset, .unset, .unset, .unset, .unset, .unset, .unset, .unset, .unset, .unset, .unset, .unset, .unset, .unset, .unset, .unset, .unset] [(.int (0 : Int32)), (.int p1), (.long q0), (.int (0 : Int32)), (.ref b2)])) t
    refine st2 _ ?_
    show Steps p.tables e below (T2.setTop (mkF m 15 #[.val (.long q0), .second, .val (.int p1), .val (.int p2), .val (.int p3), .val (.int p4), .val (.ref b2), .unset, .unset, .unset, .unset, .unset, .unset, .unset, .unset, .unset, .unset, .unset, .unset, .unset, .unset, .unset, .unset, .unset] [(.int (fB q0 p1 (0 : Int32))), (.int (0 : Int32)), (.ref b2)])) t
    refine st3 _ ?_
    show Steps p.tables e below (T3.setTop (mkF m 16 #[.val (.long q0), .second, .val (.int p1), .val (.int p2), .val (.int p3), .val (.int p4), .val (.ref b2), .unset, .unset, .unset, .unset, .unset, .unset, .unset, .unset, .unset, .unset, .unset, .unset, .unset, .unset, .unset, .unset, .unset] [])) t
    refine XS.aload X3.here hx rfl (hb hby at_16) rfl rfl ?_
    show Steps p.tables e below (T3.setTop (mkF m 18 #[.val (.long q0), .second, .val (.int p1), .val (.int p2), .val (.int p3), .val (.int p4), .val (.ref b2), .unset, .unset, .unset, .unset, .unset, .unset, .unset, .unset, .unset, .unset, .unset, .unset, .unset, .unset, .unset, .unset, .unset] [(.ref b2)])) t
    refine XS.iconst X3.here hx rfl (hb hby at_18) ?_
    show Steps p.tables e below (T3.setTop (mkF m 19 #[.val (.long q0), .second, .val (.int p1), .val (.int p2), .val (.int p3), .val (.int p4), .val (.ref b2), .unset, .unset, .unset, .unset, .unset, .unset, .unset, .unset, .unset, .unset, .unset, .unset, .unset, .unset, .unset, .unset, .unset] [(.int (1 : Int32)), (.ref b2)])) t
    refine XS.lloadN X3.here hx rfl (hb hby at_19) rfl ?_
    show Steps p.tables e below (T3.setTop (mkF m 20 #[.val (.long q0), .second, .val (.int p1), .val (.int p2), .val (.int p3), .val (.int p4), .val (.ref b2), .unset, .unset, .unset, .unset, .unset, .unset, .unset, .unset, .unset, .unset, .unset, .unset, .unset, .unset, .unset, .unset, .unset] [(.long q0), (.int (1 : Int32)), (.ref b2)])) t
    refine XS.iloadN X3.here hx rfl (hb hby at_20) rfl ?_
    show Steps p.tables e below (T3.setTop (mkF m 21 #[.val (.long q0), .second, .val (.int p1), .val (.int p2), .val (.int p3), .val (.int p4), .val (.ref b2), .unset, .unset, .unset, .unset, .unset, .unset, .unset, .unset, .unset, .unset, .unset, .unset, .unset, .unset, .unset, .unset, .unset] [(.int p1), (.long q0), (.int (1 : Int32)), (.ref b2)])) t
    refine XS.iconst X3.here hx rfl (hb hby at_21) ?_
    show Steps p.tables e below (T3.setTop (mkF m 22 #[.val (.long q0), .second, .val (.int p1), .val (.int p2), .val (.int p3), .val (.int p4), .val (.ref b2), .unset, .unset, .unset, .unset, .unset, .unset, .unset, .unset, .unset, .unset, .unset, .unset, .unset, .unset, .unset, .unset, .unset] [(.int (1 : Int32)), (.int p1), (.long q0), (.int (1 : Int32)), (.ref b2)])) t
    refine st4 _ ?_
    show Steps p.tables e below (T4.setTop (mkF m 25 #[.val (.long q0), .second, .val (.int p1), .val (.int p2), .val (.int p3), .val (.int p4), .val (.ref b2), .unset, .unset, .unset, .unset, .unset, .unset, .unset, .unset, .unset, .unset, .unset, .unset, .unset, .unset, .unset, .unset, .unset] [(.int (fB q0 p1 (1 : Int32))), (.int (1 : Int32)), (.ref b2)])) t
    refine st5 _ ?_
    show Steps p.tables e below (T5.setTop (mkF m 26 #[.val (.long q0), .second, .val (.int p1), .val (.int p2), .val (.int p3), .val (.int p4), .val (.ref b2), .unset, .unset, .unset, .unset, .unset, .unset, .unset, .unset, .unset, .unset, .unset, .unset, .unset, .unset, .unset, .unset, .unset] [])) t
    refine XS.aload X5.here hx rfl (hb hby at_26) rfl rfl ?_
    show Steps p.tables e below (T5.setTop (mkF m 28 #[.val (.long q0), .second, .val (.int p1), .val (.int p2), .val (.int p3), .val (.int p4), .val (.ref b2), .unset, .unset, .unset, .unset, .unset, .unset, .unset, .unset, .unset, .unset, .unset, .unset, .unset, .unset, .unset, .unset, .unset] [(.ref b2)])) t
    refine XS.iconst X5.here hx rfl (hb hby at_28) ?_
    show Steps p.tables e below (T5.setTop (mkF m 29 #[.val (.long q0), .second, .val (.int p1), .val (.int p2), .val (.int p3), .val (.int p4), .val (.ref b2), .unset, .unset, .unset, .unset, .unset, .unset, .unset, .unset, .unset, .unset, .unset, .unset, .unset, .unset, .unset, .unset, .unset] [(.int (2 : Int32)), (.ref b2)])) t
    refine XS.lloadN X5.here hx rfl (hb hby at_29) rfl ?_
    show Steps p.tables e below (T5.setTop (mkF m 30 #[.val (.long q0), .second, .val (.int p1), .val (.int p2), .val (.int p3), .val (.int p4), .val (.ref b2), .unset, .unset, .unset, .unset, .unset, .unset, .unset, .unset, .unset, .unset, .unset, .unset, .unset, .unset, .unset, .unset, .unset] [(.long q0), (.int (2 : Int32)), (.ref b2)])) t
    refine XS.iloadN X5.here hx rfl (hb hby at_30) rfl ?_
    show Steps p.tables e below (T5.setTop (mkF m 31 #[.val (.long q0), .second, .val (.int p1), .val (.int p2), .val (.int p3), .val (.int p4), .val (.ref b2), .unset, .unset, .unset, .unset, .unset, .unset, .unset, .unset, .unset, .unset, .unset, .unset, .unset, .unset, .unset, .unset, .unset] [(.int p1), (.long q0), (.int (2 : Int32)), (.ref b2)])) t
    refine XS.iconst X5.here hx rfl (hb hby at_31) ?_
    show Steps p.tables e below (T5.setTop (mkF m 32 #[.val (.long q0), .second, .val (.int p1), .val (.int p2), .val (.int p3), .val (.int p4), .val (.ref b2), .unset, .unset, .unset, .unset, .unset, .unset, .unset, .unset, .unset, .unset, .unset, .unset, .unset, .unset, .unset, .unset, .unset] [(.int (2 : Int32)), (.int p1), (.long q0), (.int (2 : Int32)), (.ref b2)])) t
    refine st6 _ ?_
    show Steps p.tables e below (T6.setTop (mkF m 35 #[.val (.long q0), .second, .val (.int p1), .val (.int p2), .val (.int p3), .val (.int p4), .val (.ref b2), .unset, .unset, .unset, .unset, .unset, .unset, .unset, .unset, .unset, .unset, .unset, .unset, .unset, .unset, .unset, .unset, .unset] [(.int (fB q0 p1 (2 : Int32))), (.int (2 : Int32)), (.ref b2)])) t
    refine st7 _ ?_
    show Steps p.tables e below (T7.setTop (mkF m 36 #[.val (.long q0), .second, .val (.int p1), .val (.int p2), .val (.int p3), .val (.int p4), .val (.ref b2), .unset, .unset, .unset, .unset, .unset, .unset, .unset, .unset, .unset, .unset, .unset, .unset, .unset, .unset, .unset, .unset, .unset] [])) t
    refine XS.aload X7.here hx rfl (hb hby at_36) rfl rfl ?_
    show Steps p.tables e below (T7.setTop (mkF m 38 #[.val (.long q0), .second, .val (.int p1), .val (.int p2), .val (.int p3), .val (.int p4), .val (.ref b2), .unset, .unset, .unset, .unset, .unset, .unset, .unset, .unset, .unset, .unset, .unset, .unset, .unset, .unset, .unset, .unset, .unset] [(.ref b2)])) t
    refine XS.iconst X7.here hx rfl (hb hby at_38) ?_
    show Steps p.tables e below (T7.setTop (mkF m 39 #[.val (.long q0), .second, .val (.int p1), .val (.int p2), .val (.int p3), .val (.int p4), .val (.ref b2), .unset, .unset, .unset, .unset, .unset, .unset, .unset, .unset, .unset, .unset, .unset, .unset, .unset, .unset, .unset, .unset, .unset] [(.int (3 : Int32)), (.ref b2)])) t
    refine XS.lloadN X7.here hx rfl (hb hby at_39) rfl ?_
    show Steps p.tables e below (T7.setTop (mkF m 40 #[.val (.long q0), .second, .val (.int p1), .val (.int p2), .val (.int p3), .val (.int p4), .val (.ref b2), .unset, .unset, .unset, .unset, .unset, .unset, .unset, .unset, .unset, .unset, .unset, .unset, .unset, .unset, .unset, .unset, .unset] [(.long q0), (.int (3 : Int32)), (.ref b2)])) t
    refine XS.iloadN X7.here hx rfl (hb hby at_40) rfl ?_
    show Steps p.tables e below (T7.setTop (mkF m 41 #[.val (.long q0), .second, .val (.int p1), .val (.int p2), .val (.int p3), .val (.int p4), .val (.ref b2), .unset, .unset, .unset, .unset, .unset, .unset, .unset, .unset, .unset, .unset, .unset, .unset, .unset, .unset, .unset, .unset, .unset] [(.int p1), (.long q0), (.int (3 : Int32)), (.ref b2)])) t
    refine XS.iconst X7.here hx rfl (hb hby at_41) ?_
    show Steps p.tables e below (T7.setTop (mkF m 42 #[.val (.long q0), .second, .val (.int p1), .val (.int p2), .val (.int p3), .val (.int p4), .val (.ref b2), .unset, .unset, .unset, .unset, .unset, .unset, .unset, .unset, .unset, .unset, .unset, .unset, .unset, .unset, .unset, .unset, .unset] [(.int (3 : Int32)), (.int p1), (.long q0), (.int (3 : Int32)), (.ref b2)])) t
    refine st8 _ ?_
    show Steps p.tables e below (T8.setTop (mkF m 45 #[.val (.long q0), .second, .val (.int p1), .val (.int p2), .val (.int p3), .val (.int p4), .val (.ref b2), .unset, .unset, .unset, .unset, .unset, .unset, .unset, .unset, .unset, .unset, .unset, .unset, .unset, .unset, .unset, .unset, .unset] [(.int (fB q0 p1 (3 : Int32))), (.int (3 : Int32)), (.ref b2)])) t
    refine st9 _ ?_
    show Steps p.tables e below (T9.setTop (mkF m 46 #[.val (.long q0), .second, .val (.int p1), .val (.int p2), .val (.int p3), .val (.int p4), .val (.ref b2), .unset, .unset, .unset, .unset, .unset, .unset, .unset, .unset, .unset, .unset, .unset, .unset, .unset, .unset, .unset, .unset, .unset] [])) t
    refine XS.aload X9.here hx rfl (hb hby at_46) rfl rfl ?_
    show Steps p.tables e below (T9.setTop (mkF m 48 #[.val (.long q0), .second, .val (.int p1), .val (.int p2), .val (.int p3), .val (.int p4), .val (.ref b2), .unset, .unset, .unset, .unset, .unset, .unset, .unset, .unset, .unset, .unset, .unset, .unset, .unset, .unset, .unset, .unset, .unset] [(.ref b2)])) t
    refine XS.iconst X9.here hx rfl (hb hby at_48) ?_
    show Steps p.tables e below (T9.setTop (mkF m 49 #[.val (.long q0), .second, .val (.int p1), .val (.int p2), .val (.int p3), .val (.int p4), .val (.ref b2), .unset, .unset, .unset, .unset, .unset, .unset, .unset, .unset, .unset, .unset, .unset, .unset, .unset, .unset, .unset, .unset, .unset] [(.int (4 : Int32)), (.ref b2)])) t
    refine XS.lloadN X9.here hx rfl (hb hby at_49) rfl ?_
    show Steps p.tables e below (T9.setTop (mkF m 50 #[.val (.long q0), .second, .val (.int p1), .val (.int p2), .val (.int p3), .val (.int p4), .val (.ref b2), .unset, .unset, .unset, .unset, .unset, .unset, .unset, .unset, .unset, .unset, .unset, .unset, .unset, .unset, .unset, .unset, .unset] [(.long q0), (.int (4 : Int32)), (.ref b2)])) t
    refine XS.iloadN X9.here hx rfl (hb hby at_50) rfl ?_
    show Steps p.tables e below (T9.setTop (mkF m 51 #[.val (.long q0), .second, .val (.int p1), .val (.int p2), .val (.int p3), .val (.int p4), .val (.ref b2), .unset, .unset, .unset, .unset, .unset, .unset, .unset, .unset, .unset, .unset, .unset, .unset, .unset, .unset, .unset, .unset, .unset] [(.int p1), (.long q0), (.int (4 : Int32)), (.ref b2)])) t
    refine XS.iconst X9.here hx rfl (hb hby at_51) ?_
    show Steps p.tables e below (T9.setTop (mkF m 52 #[.val (.long q0), .second, .val (.int p1), .val (.int p2), .val (.int p3), .val (.int p4), .val (.ref b2), .unset, .unset, .unset, .unset, .unset, .unset, .unset, .unset, .unset, .unset, .unset, .unset, .unset, .unset, .unset, .unset, .unset] [(.int (4 : Int32)), (.int p1), (.long q0), (.int (4 : Int32)), (.ref b2)])) t
    refine st10 _ ?_
    show Steps p.tables e below (T10.setTop (mkF m 55 #[.val (.long q0), .second, .val (.int p1), .val (.int p2), .val (.int p3), .val (.int p4), .val (.ref b2), .unset, .unset, .unset, .unset, .unset, .unset, .unset, .unset, .unset, .unset, .unset, .unset, .unset, .unset, .unset, .unset, .unset] [(.int (fB q0 p1 (4 : Int32))), (.int (4 : Int32)), (.ref b2)])) t
    refine st11 _ ?_
    show Steps p.tables e below (T11.setTop (mkF m 56 #[.val (.long q0), .second, .val (.int p1), .val (.int p2), .val (.int p3), .val (.int p4), .val (.ref b2), .unset, .unset, .unset, .unset, .unset, .unset, .unset, .unset, .unset, .unset, .unset, .unset, .unset, .unset, .unset, .unset, .unset] [])) t
    refine XS.aload X11.here hx rfl (hb hby at_56) rfl rfl ?_
    show Steps p.tables e below (T11.setTop (mkF m 58 #[.val (.long q0), .second, .val (.int p1), .val (.int p2), .val (.int p3), .val (.int p4), .val (.ref b2), .unset, .unset, .unset, .unset, .unset, .unset, .unset, .unset, .unset, .unset, .unset, .unset, .unset, .unset, .unset, .unset, .unset] [(.ref b2)])) t
    refine XS.iconst X11.here hx rfl (hb hby at_58) ?_
    show Steps p.tables e below (T11.setTop (mkF m 59 #[.val (.long q0), .second, .val (.int p1), .val (.int p2), .val (.int p3), .val (.int p4), .val (.ref b2), .unset, .unset, .unset, .unset, .unset, .unset, .unset, .unset, .unset, .unset, .unset, .unset, .unset, .unset, .unset, .unset, .unset] [(.int (5 : Int32)), (.ref b2)])) t
    refine XS.lloadN X11.here hx rfl (hb hby at_59) rfl ?_
    show Steps p.tables e below (T11.setTop (mkF m 60 #[.val (.long q0), .second, .val (.int p1), .val (.int p2), .val (.int p3), .val (.int p4), .val (.ref b2), .unset, .unset, .unset, .unset, .unset, .unset, .unset, .unset, .unset, .unset, .unset, .unset, .unset, .unset, .unset, .unset, .unset] [(.long q0), (.int (5 : Int32)), (.ref b2)])) t
    refine XS.iloadN X11.here hx rfl (hb hby at_60) rfl ?_
    show Steps p.tables e below (T11.setTop (mkF m 61 #[.val (.long q0), .second, .val (.int p1), .val (.int p2), .val (.int p3), .val (.int p4), .val (.ref b2), .unset, .unset, .unset, .unset, .unset, .unset, .unset, .unset, .unset, .unset, .unset, .unset, .unset, .unset, .unset, .unset, .unset] [(.int p1), (.long q0), (.int (5 : Int32)), (.ref b2)])) t
    refine XS.iconst X11.here hx rfl (hb hby at_61) ?_
    show Steps p.tables e below (T11.setTop (mkF m 62 #[.val (.long q0), .second, .val (.int p1), .val (.int p2), .val (.int p3), .val (.int p4), .val (.ref b2), .unset, .unset, .unset, .unset, .unset, .unset, .unset, .unset, .unset, .unset, .unset, .unset, .unset, .unset, .unset, .unset, .unset] [(.int (5 : Int32)), (.int p1), (.long q0), (.int (5 : Int32)), (.ref b2)])) t
    refine st12 _ ?_
    show Steps p.tables e below (T12.setTop (mkF m 65 #[.val (.long q0), .second, .val (.int p1), .val (.int p2), .val (.int p3), .val (.int p4), .val (.ref b2), .unset, .unset, .unset, .unset, .unset, .unset, .unset, .unset, .unset, .unset, .unset, .unset, .unset, .unset, .unset, .unset, .unset] [(.int (fB q0 p1 (5 : Int32))), (.int (5 : Int32)), (.ref b2)])) t
    refine st13 _ ?_
    show Steps p.tables e below (T13.setTop (mkF m 66 #[.val (.long q0), .second, .val (.int p1), .val (.int p2), .val (.int p3), .val (.int p4), .val (.ref b2), .unset, .unset, .unset, .unset, .unset, .unset, .unset, .unset, .unset, .unset, .unset, .unset, .unset, .unset, .unset, .unset, .unset] [])) t
    refine XS.iloadN X13.here hx rfl (hb hby at_66) rfl ?_
    show Steps p.tables e below (T13.setTop (mkF m 67 #[.val (.long q0), .second, .val (.int p1), .val (.int p2), .val (.int p3), .val (.int p4), .val (.ref b2), .unset, .unset, .unset, .unset, .unset, .unset, .unset, .unset, .unset, .unset, .unset, .unset, .unset, .unset, .unset, .unset, .unset] [(.int p2)])) t
    refine X13.ldcInt hx hown (mvT hZ (hw _ (List.mem_of_getElem? (i := 5) rfl))) (g := (mkF m 67 #[.val (.long q0), .second, .val (.int p1), .val (.int p2), .val (.int p3), .val (.int p4), .val (.ref b2), .unset, .unset, .unset, .unset, .unset, .unset, .unset, .unset, .unset, .unset, .unset, .unset, .unset, .unset, .unset, .unset, .unset] [(.int p2)])) rfl (hb hby at_67) _ ?_
    show Steps p.tables e below (T13.setTop (mkF m 69 #[.val (.long q0), .second, .val (.int p1), .val (.int p2), .val (.int p3), .val (.int p4), .val (.ref b2), .unset, .unset, .unset, .unset, .unset, .unset, .unset, .unset, .unset, .unset, .unset, .unset, .unset, .unset, .unset, .unset, .unset] [(.int (2147483647 : Int32)), (.int p2)])) t
    refine XS.iand X13.here hx rfl (hb hby at_69) rfl ?_
    show Steps p.tables e below (T13.setTop (mkF m 70 #[.val (.long q0), .second, .val (.int p1), .val (.int p2), .val (.int p3), .val (.int p4), .val (.ref b2), .unset, .unset, .unset, .unset, .unset, .unset, .unset, .unset, .unset, .unset, .unset, .unset, .unset, .unset, .unset, .unset, .unset] [(.int (p2 &&& (2147483647 : Int32)))])) t
    refine XS.bipush X13.here hx rfl (hb hby at_70) ?_
    show Steps p.tables e below (T13.setTop (mkF m 72 #[.val (.long q0), .second, .val (.int p1), .val (.int p2), .val (.int p3), .val (.int p4), .val (.ref b2), .unset, .unset, .unset, .unset, .unset, .unset, .unset, .unset, .unset, .unset, .unset, .unset, .unset, .unset, .unset, .unset, .unset] [(.int (7 : Int32)), (.int (p2 &&& (2147483647 : Int32)))])) t
    refine iremM X13 hx rfl (hb hby at_72) rfl (by decide) ?_
    show Steps p.tables e below (T13.setTop (mkF m 73 #[.val (.long q0), .second, .val (.int p1), .val (.int p2), .val (.int p3), .val (.int p4), .val (.ref b2), .unset, .unset, .unset, .unset, .unset, .unset, .unset, .unset, .unset, .unset, .unset, .unset, .unset, .unset, .unset, .unset, .unset] [(.int ((p2 &&& (2147483647 : Int32)) % (7 : Int32)))])) t
    refine XS.istore X13.here hx rfl (hb hby at_73) rfl (l' := #[.val (.long q0), .second, .val (.int p1), .val (.int p2), .val (.int p3), .val (.int p4), .val (.ref b2), .val (.int ((p2 &&& (2147483647 : Int32)) % (7 : Int32))), .unset, .unset, .unset, .unset, .unset, .unset, .unset, .unset, .unset, .unset, .unset, .unset, .unset, .unset, .unset, .unset]) rfl ?_
    exact kt
  obtain ⟨v73, hv73, K15⟩ : ∃ v73 : Int32, v73 = ((p2 &&& (2147483647 : Int32)) % (7 : Int32)) ∧ ∀ t, Steps p.tables e below (T13.setTop (mkF m 75 #[.val (.long q0), .second, .val (.int p1), .val (.int p2), .val (.int p3), .val (.int p4), .val (.ref b2), .val (.int v73), .unset, .unset, .unset, .unset, .unset, .unset, .unset, .unset, .unset, .unset, .unset, .unset, .unset, .unset, .unset, .unset] [])) t → P0 t := ⟨_, rfl, K14⟩
  have K16 : ∀ t, Steps p.tables e below (T13.setTop (mkF m 88 #[.val (.long q0), .second, .val (.int p1), .val (.int p2), .val (.int p3), .val (.int p4), .val (.ref b2), .val (.int v73), .val (.int ((p3 &&& (2147483647 : Int32)) % ((7 : Int32) - v73))), .unset, .unset, .unset, .unset, .unset, .unset, .unset, .unset, .unset, .unset, .unset, .unset, .unset, .unset, .unset] [])) t → P0 t := by
    intro t kt
    refine K15 t ?_
    show Steps p.tables e below (T13.setTop (mkF m 75 #[.val (.long q0), .second, .val (.int p1), .val (.int p2), .val (.int p3), .val (.int p4), .val (.ref b2), .val (.int v73), .unset, .unset, .unset, .unset, .unset, .unset, .unset, .unset, .unset, .unset, .unset, .unset, .unset, .unset, .unset, .unset] [])) t
    refine XS.iload X13.here hx rfl (hb hby at_75) rfl ?_
    show Steps p.tables e below (T13.setTop (mkF m 77 #[.val (.long q0), .second, .val (.int p1), .val (.int p2), .val (.int p3), .val (.int p4), .val (.ref b2), .val (.int v73), .unset, .unset, .unset, .unset, .unset, .unset, .unset, .unset, .unset, .unset, .unset, .unset, .unset, .unset, .unset, .unset] [(.int p3)])) t
    refine X13.ldcInt hx hown (mvT hZ (hw _ (List.mem_of_getElem? (i := 5) rfl))) (g := (mkF m 77 #[.val (.long q0), .second, .val (.int p1), .val (.int p2), .val (.int p3), .val (.int p4), .val (.ref b2), .val (.int v73), .unset, .unset, .unset, .unset, .unset, .unset, .unset, .unset, .unset, .unset, .unset, .unset, .unset, .unset, .unset, .unset] [(.int p3)])) rfl (hb hby at_77) _ ?_
    show Steps p.tables e below (T13.setTop (mkF m 79 #[.val (.long q0), .second, .val (.int p1), .val (.int p2), .val (.int p3), .val (.int p4), .val (.ref b2), .val (.int v73), .unset, .unset, .unset, .unset, .unset, .unset, .unset, .unset, .unset, .unset, .unset, .unset, .unset, .unset, .unset, .unset] [(.int (2147483647 : Int32)), (.int p3)])) t
    refine XS.iand X13.here hx rfl (hb hby at_79) rfl ?_
    show Steps p.tables e below (T13.setTop (mkF m 80 #[.val (.long q0), .second, .val (.int p1), .val (.int p2), .val (.int p3), .val (.int p4), .val (.ref b2), .val (.int v73), .unset, .unset, .unset, .unset, .unset, .unset, .unset, .unset, .unset, .unset, .unset, .unset, .unset, .unset, .unset, .unset] [(.int (p3 &&& (2147483647 : Int32)))])) t
    refine XS.bipush X13.here hx rfl (hb hby at_80) ?_
    show Steps p.tables e below (T13.setTop (mkF m 82 #[.val (.long q0), .second, .val (.int p1), .val (.int p2), .val (.int p3), .val (.int p4), .val (.ref b2), .val (.int v73), .unset, .unset, .unset, .unset, .unset, .unset, .unset, .unset, .unset, .unset, .unset, .unset, .unset, .unset, .unset, .unset] [(.int (7 : Int32)), (.int (p3 &&& (2147483647 : Int32)))])) t
    refine XS.iload X13.here hx rfl (hb hby at_82) rfl ?_
    show Steps p.tables e below (T13.setTop (mkF m 84 #[.val (.long q0), .second, .val (.int p1), .val (.int p2), .val (.int p3), .val (.int p4), .val (.ref b2), .val (.int v73), .unset, .unset, .unset, .unset, .unset, .unset, .unset, .unset, .unset, .unset, .unset, .unset, .unset, .unset, .unset, .unset] [(.int v73), (.int (7 : Int32)), (.int (p3 &&& (2147483647 : Int32)))])) t
    refine XS.isub X13.here hx rfl (hb hby at_84) rfl ?_
    show Steps p.tables e below (T13.setTop (mkF m 85 #[.val (.long q0), .second, .val (.int p1), .val (.int p2), .val (.int p3), .val (.int p4), .val (.ref b2), .val (.int v73), .unset, .unset, .unset, .unset, .unset, .unset, .unset, .unset, .unset, .unset, .unset, .unset, .unset, .unset, .unset, .unset] [(.int ((7 : Int32) - v73)), (.int (p3 &&& (2147483647 : Int32)))])) t
    refine iremM X13 hx rfl (hb hby at_85) rfl (own_nz hv73) ?_
    show Steps p.tables e below (T13.setTop (mkF m 86 #[.val (.long q0), .second, .val (.int p1), .val (.int p2), .val (.int p3), .val (.int p4), .val (.ref b2), .val (.int v73), .unset, .unset, .unset, .unset, .unset, .unset, .unset, .unset, .unset, .unset, .unset, .unset, .unset, .unset, .unset, .unset] [(.int ((p3 &&& (2147483647 : Int32)) % ((7 : Int32) - v73)))])) t
    refine XS.istore X13.here hx rfl (hb hby at_86) rfl (l' := #[.val (.long q0), .second, .val (.int p1), .val (.int p2), .val (.int p3), .val (.int p4), .val (.ref b2), .val (.int v73), .val (.int ((p3 &&& (2147483647 : Int32)) % ((7 : Int32) - v73))), .unset, .unset, .unset, .unset, .unset, .unset, .unset, .unset, .unset, .unset, .unset, .unset, .unset, .unset, .unset]) rfl ?_
    exact kt
  obtain ⟨v86, hv86, K17⟩ : ∃ v86 : Int32, v86 = ((p3 &&& (2147483647 : Int32)) % ((7 : Int32) - v73)) ∧ ∀ t, Steps p.tables e below (T13.setTop (mkF m 88 #[.val (.long q0), .second, .val (.int p1), .val (.int p2), .val (.int p3), .val (.int p4), .val (.ref b2), .val (.int v73), .val (.int v86), .unset, .unset, .unset, .unset, .unset, .unset, .unset, .unset, .unset, .unset, .unset, .unset, .unset, .unset, .unset] [])) t → P0 t := ⟨_, rfl, K16⟩
  have K18 : ∀ t, Steps p.tables e below (T13.setTop (mkF m 95 #[.val (.long q0), .second, .val (.int p1), .val (.int p2), .val (.int p3), .val (.int p4), .val (.ref b2), .val (.int v73), .val (.int v86), .val (.int (v73 + v86)), .unset, .unset, .unset, .unset, .unset, .unset, .unset, .unset, .unset, .unset, .unset, .unset, .unset, .unset] [])) t → P0 t := by
    intro t kt
    refine K17 t ?_
    show Steps p.tables e below (T13.setTop (mkF m 88 #[.val (.long q0), .second, .val (.int p1), .val (.int p2), .val (.int p3), .val (.int p4), .val (.ref b2), .val (.int v73), .val (.int v86), .unset, .unset, .unset, .unset, .unset, .unset, .unset, .unset, .unset, .unset, .unset, .unset, .unset, .unset, .unset] [])) t
    refine XS.iload X13.here hx rfl (hb hby at_88) rfl ?_
    show Steps p.tables e below (T13.setTop (mkF m 90 #[.val (.long q0), .second, .val (.int p1), .val (.int p2), .val (.int p3), .val (.int p4), .val (.ref b2), .val (.int v73), .val (.int v86), .unset, .unset, .unset, .unset, .unset, .unset, .unset, .unset, .unset, .unset, .unset, .unset, .unset, .unset, .unset] [(.int v73)])) t
    refine XS.iload X13.here hx rfl (hb hby at_90) rfl ?_
    show Steps p.tables e below (T13.setTop (mkF m 92 #[.val (.long q0), .second, .val (.int p1), .val (.int p2), .val (.int p3), .val (.int p4), .val (.ref b2), .val (.int v73), .val (.int v86), .unset, .unset, .unset, .unset, .unset, .unset, .unset, .unset, .unset, .unset, .unset, .unset, .unset, .unset, .unset] [(.int v86), (.int v73)])) t
    refine XS.iadd X13.here hx rfl (hb hby at_92) rfl ?_
    show Steps p.tables e below (T13.setTop (mkF m 93 #[.val (.long q0), .second, .val (.int p1), .val (.int p2), .val (.int p3), .val (.int p4), .val (.ref b2), .val (.int v73), .val (.int v86), .unset, .unset, .unset, .unset, .unset, .unset, .unset, .unset, .unset, .unset, .unset, .unset, .unset, .unset, .unset] [(.int (v73 + v86))])) t
    refine XS.istore X13.here hx rfl (hb hby at_93) rfl (l' := #[.val (.long q0), .second, .val (.int p1), .val (.int p2), .val (.int p3), .val (.int p4), .val (.ref b2), .val (.int v73), .val (.int v86), .val (.int (v73 + v86)), .unset, .unset, .unset, .unset, .unset, .unset, .unset, .unset, .unset, .unset, .unset, .unset, .unset, .unset]) rfl ?_
    exact kt
  obtain ⟨v93, hv93, K19⟩ : ∃ v93 : Int32, v93 = (v73 + v86) ∧ ∀ t, Steps p.tables e below (T13.setTop (mkF m 95 #[.val (.long q0), .second, .val (.int p1), .val (.int p2), .val (.int p3), .val (.int p4), .val (.ref b2), .val (.int v73), .val (.int v86), .val (.int v93), .unset, .unset, .unset, .unset, .unset, .unset, .unset, .unset, .unset, .unset, .unset, .unset, .unset, .unset] [])) t → P0 t := ⟨_, rfl, K18⟩
  have K20 : ∀ t, Steps p.tables e below (T13.setTop (mkF m 104 #[.val (.long q0), .second, .val (.int p1), .val (.int p2), .val (.int p3), .val (.int p4), .val (.ref b2), .val (.int v73), .val (.int v86), .val (.int v93), .val (.int ((p4 &&& (7 : Int32)) + (1 : Int32))), .unset, .unset, .unset, .unset, .unset, .unset, .unset, .unset, .unset, .unset, .unset, .unset, .unset] [])) t → P0 t := by
    intro t kt
    refine K19 t ?_
    show Steps p.tables e below (T13.setTop (mkF m 95 #[.val (.long q0), .second, .val (.int p1), .val (.int p2), .val (.int p3), .val (.int p4), .val (.ref b2), .val (.int v73), .val (.int v86), .val (.int v93), .unset, .unset, .unset, .unset, .unset, .unset, .unset, .unset, .unset, .unset, .unset, .unset, .unset, .unset] [])) t
    refine XS.iload X13.here hx rfl (hb hby at_95) rfl ?_
    show Steps p.tables e below (T13.setTop (mkF m 97 #[.val (.long q0), .second, .val (.int p1), .val (.int p2), .val (.int p3), .val (.int p4), .val (.ref b2), .val (.int v73), .val (.int v86), .val (.int v93), .unset, .unset, .unset, .unset, .unset, .unset, .unset, .unset, .unset, .unset, .unset, .unset, .unset, .unset] [(.int p4)])) t
    refine XS.bipush X13.here hx rfl (hb hby at_97) ?_
    show Steps p.tables e below (T13.setTop (mkF m 99 #[.val (.long q0), .second, .val (.int p1), .val (.int p2), .val (.int p3), .val (.int p4), .val (.ref b2), .val (.int v73), .val (.int v86), .val (.int v93), .unset, .unset, .unset, .unset, .unset, .unset, .unset, .unset, .unset, .unset, .unset, .unset, .unset, .unset] [(.int (7 : Int32)), (.int p4)])) t
    refine XS.iand X13.here hx rfl (hb hby at_99) rfl ?_
    show Steps p.tables e below (T13.setTop (mkF m 100 #[.val (.long q0), .second, .val (.int p1), .val (.int p2), .val (.int p3), .val (.int p4), .val (.ref b2), .val (.int v73), .val (.int v86), .val (.int v93), .unset, .unset, .unset, .unset, .unset, .unset, .unset, .unset, .unset, .unset, .unset, .unset, .unset, .unset] [(.int (p4 &&& (7 : Int32)))])) t
    refine XS.iconst X13.here hx rfl (hb hby at_100) ?_
    show Steps p.tables e below (T13.setTop (mkF m 101 #[.val (.long q0), .second, .val (.int p1), .val (.int p2), .val (.int p3), .val (.int p4), .val (.ref b2), .val (.int v73), .val (.int v86), .val (.int v93), .unset, .unset, .unset, .unset, .unset, .unset, .unset, .unset, .unset, .unset, .unset, .unset, .unset, .unset] [(.int (1 : Int32)), (.int (p4 &&& (7 : Int32)))])) t
    refine XS.iadd X13.here hx rfl (hb hby at_101) rfl ?_
    show Steps p.tables e below (T13.setTop (mkF m 102 #[.val (.long q0), .second, .val (.int p1), .val (.int p2), .val (.int p3), .val (.int p4), .val (.ref b2), .val (.int v73), .val (.int v86), .val (.int v93), .unset, .unset, .unset, .unset, .unset, .unset, .unset, .unset, .unset, .unset, .unset, .unset, .unset, .unset] [(.int ((p4 &&& (7 : Int32)) + (1 : Int32)))])) t
    refine XS.istore X13.here hx rfl (hb hby at_102) rfl (l' := #[.val (.long q0), .second, .val (.int p1), .val (.int p2), .val (.int p3), .val (.int p4), .val (.ref b2), .val (.int v73), .val (.int v86), .val (.int v93), .val (.int ((p4 &&& (7 : Int32)) + (1 : Int32))), .unset, .unset, .unset, .unset, .unset, .unset, .unset, .unset, .unset, .unset, .unset, .unset, .unset]) rfl ?_
    exact kt
  obtain ⟨v102, hv102, K21⟩ : ∃ v102 : Int32, v102 = ((p4 &&& (7 : Int32)) + (1 : Int32)) ∧ ∀ t, Steps p.tables e below (T13.setTop (mkF m 104 #[.val (.long q0), .second, .val (.int p1), .val (.int p2), .val (.int p3), .val (.int p4), .val (.ref b2), .val (.int v73), .val (.int v86), .val (.int v93), .val (.int v102), .unset, .unset, .unset, .unset, .unset, .unset, .unset, .unset, .unset, .unset, .unset, .unset, .unset] [])) t → P0 t := ⟨_, rfl, K20⟩
  obtain ⟨a, b, hna, hnb, hab, hb6⟩ := own_ab2 hv73 hv86 hv93
  obtain ⟨col, hcol, hc1, hc8⟩ := own_col hv102
  obtain ⟨_, _, ⟨T22, L22, k22, n22⟩, -, X22, ⟨Lc22, hQ22, l22, y22, z22⟩, st22⟩ := Jvm.LawKit.callS X13 hx (y := (⟨"com/example/lowtide/lowtide/ColumnsStartPinLaw", "t", "([BIII)I"⟩ : MethodName)) hown (mvT hZ (hw _ (List.mem_of_getElem? (i := 6) rfl))) (mvT hZ (hw _ (List.mem_of_getElem? (i := 7) rfl))) (mvT hZ (hw _ (List.mem_of_getElem? (i := 3) rfl))) (mvT hZ (hw _ (List.mem_of_getElem? (i := 8) rfl))) (by decide) (backOf (W := 0) (rm_ttt l Z a0 hw [] b2 (0 : Int32) v73 v93 f65 h13 n0 Z13 V13' (by decide)) hZ (hw _ (List.mem_of_getElem? (i := 8) rfl)) (hw _ (List.mem_of_getElem? (i := 3) rfl)) (by decide) (by decide)) (g := (mkF m 111 #[.val (.long q0), .second, .val (.int p1), .val (.int p2), .val (.int p3), .val (.int p4), .val (.ref b2), .val (.int v73), .val (.int v86), .val (.int v93), .val (.int v102), .unset, .unset, .unset, .unset, .unset, .unset, .unset, .unset, .unset, .unset, .unset, .unset, .unset] [(.int v93), (.int v73), (.int (0 : Int32)), (.ref b2)])) rfl (by rw [hml]; rfl) (argsL := [(.ref b2), (.int (0 : Int32)), (.int v73), (.int v93)]) (rest := []) (lenOf law_pd1 rfl) rfl (by show 2 * 0 + _ ≤ _; exact Nat.le_of_eq rfl) (hb hby at_111) (fun _ _ => ⟨rfl, e13, (by decide : 1 + 0 ≤ _), (by decide : 6 + 0 ≤ _)⟩)
  dsimp only [Pt.U, Pt.locs, Pt.cells, Pt.slots] at X22 l22 y22 z22 st22 hQ22
  rw [l22, y22, z22] at X22
  obtain ⟨rfl, N22q, e22⟩ := hQ22
  have N22 := Fr.app N13 N22q
  have K23 : ∀ t, Steps p.tables e below (T22.setTop (mkF m 116 #[.val (.long q0), .second, .val (.int p1), .val (.int p2), .val (.int p3), .val (.int p4), .val (.ref b2), .val (.int v73), .val (.int v86), .val (.int v93), .val (.int v102), .val (.int (fT (0 : Int32) v73 v93 f65)), .unset, .unset, .unset, .unset, .unset, .unset, .unset, .unset, .unset, .unset, .unset, .unset] [])) t → P0 t := by
    intro t kt
    refine K21 t ?_
    show Steps p.tables e below (T13.setTop (mkF m 104 #[.val (.long q0), .second, .val (.int p1), .val (.int p2), .val (.int p3), .val (.int p4), .val (.ref b2), .val (.int v73), .val (.int v86), .val (.int v93), .val (.int v102), .unset, .unset, .unset, .unset, .unset, .unset, .unset, .unset, .unset, .unset, .unset, .unset, .unset] [])) t
    refine XS.aload X13.here hx rfl (hb hby at_104) rfl rfl ?_
    show Steps p.tables e below (T13.setTop (mkF m 106 #[.val (.long q0), .second, .val (.int p1), .val (.int p2), .val (.int p3), .val (.int p4), .val (.ref b2), .val (.int v73), .val (.int v86), .val (.int v93), .val (.int v102), .unset, .unset, .unset, .unset, .unset, .unset, .unset, .unset, .unset, .unset, .unset, .unset, .unset] [(.ref b2)])) t
    refine XS.iconst X13.here hx rfl (hb hby at_106) ?_
    show Steps p.tables e below (T13.setTop (mkF m 107 #[.val (.long q0), .second, .val (.int p1), .val (.int p2), .val (.int p3), .val (.int p4), .val (.ref b2), .val (.int v73), .val (.int v86), .val (.int v93), .val (.int v102), .unset, .unset, .unset, .unset, .unset, .unset, .unset, .unset, .unset, .unset, .unset, .unset, .unset] [(.int (0 : Int32)), (.ref b2)])) t
    refine XS.iload X13.here hx rfl (hb hby at_107) rfl ?_
    show Steps p.tables e below (T13.setTop (mkF m 109 #[.val (.long q0), .second, .val (.int p1), .val (.int p2), .val (.int p3), .val (.int p4), .val (.ref b2), .val (.int v73), .val (.int v86), .val (.int v93), .val (.int v102), .unset, .unset, .unset, .unset, .unset, .unset, .unset, .unset, .unset, .unset, .unset, .unset, .unset] [(.int v73), (.int (0 : Int32)), (.ref b2)])) t
    refine XS.iload X13.here hx rfl (hb hby at_109) rfl ?_
    show Steps p.tables e below (T13.setTop (mkF m 111 #[.val (.long q0), .second, .val (.int p1), .val (.int p2), .val (.int p3), .val (.int p4), .val (.ref b2), .val (.int v73), .val (.int v86), .val (.int v93), .val (.int v102), .unset, .unset, .unset, .unset, .unset, .unset, .unset, .unset, .unset, .unset, .unset, .unset, .unset] [(.int v93), (.int v73), (.int (0 : Int32)), (.ref b2)])) t
    refine st22 _ ?_
    show Steps p.tables e below (T22.setTop (mkF m 114 #[.val (.long q0), .second, .val (.int p1), .val (.int p2), .val (.int p3), .val (.int p4), .val (.ref b2), .val (.int v73), .val (.int v86), .val (.int v93), .val (.int v102), .unset, .unset, .unset, .unset, .unset, .unset, .unset, .unset, .unset, .unset, .unset, .unset, .unset] [(.int (fT (0 : Int32) v73 v93 f65))])) t
    refine XS.istore X22.here hx rfl (hb hby at_114) rfl (l' := #[.val (.long q0), .second, .val (.int p1), .val (.int p2), .val (.int p3), .val (.int p4), .val (.ref b2), .val (.int v73), .val (.int v86), .val (.int v93), .val (.int v102), .val (.int (fT (0 : Int32) v73 v93 f65)), .unset, .unset, .unset, .unset, .unset, .unset, .unset, .unset, .unset, .unset, .unset, .unset]) rfl ?_
    exact kt
  obtain ⟨v114, hv114, K24⟩ : ∃ v114 : Int32, v114 = (fT (0 : Int32) v73 v93 f65) ∧ ∀ t, Steps p.tables e below (T22.setTop (mkF m 116 #[.val (.long q0), .second, .val (.int p1), .val (.int p2), .val (.int p3), .val (.int p4), .val (.ref b2), .val (.int v73), .val (.int v86), .val (.int v93), .val (.int v102), .val (.int v114), .unset, .unset, .unset, .unset, .unset, .unset, .unset, .unset, .unset, .unset, .unset, .unset] [])) t → P0 t := ⟨_, rfl, K23⟩
  obtain ⟨_, _, ⟨T25, L25, k25, n25⟩, -, X25, ⟨Lc25, hQ25, l25, y25, z25⟩, st25⟩ := Jvm.LawKit.callS X22 hx (y := (⟨"com/example/lowtide/lowtide/ColumnsStartPinLaw", "t", "([BIII)I"⟩ : MethodName)) hown (mvT hZ (hw _ (List.mem_of_getElem? (i := 6) rfl))) (mvT hZ (hw _ (List.mem_of_getElem? (i := 7) rfl))) (mvT hZ (hw _ (List.mem_of_getElem? (i := 3) rfl))) (mvT hZ (hw _ (List.mem_of_getElem? (i := 8) rfl))) (by decide) (backOf (W := 0) (rm_ttt l Z a0 hw [] b2 (1 : Int32) v73 v93 f65 h13 n0 Z13 V13' (by decide)) hZ (hw _ (List.mem_of_getElem? (i := 8) rfl)) (hw _ (List.mem_of_getElem? (i := 3) rfl)) (by decide) (by decide)) (g := (mkF m 123 #[.val (.long q0), .second, .val (.int p1), .val (.int p2), .val (.int p3), .val (.int p4), .val (.ref b2), .val (.int v73), .val (.int v86), .val (.int v93), .val (.int v102), .val (.int v114), .unset, .unset, .unset, .unset, .unset, .unset, .unset, .unset, .unset, .unset, .unset, .unset] [(.int v93), (.int v73), (.int (1 : Int32)), (.ref b2)])) rfl (by rw [hml]; rfl) (argsL := [(.ref b2), (.int (1 : Int32)), (.int v73), (.int v93)]) (rest := []) (lenOf law_pd1 rfl) rfl (by show 2 * 0 + _ ≤ _; exact Nat.le_of_eq rfl) (hb hby at_123) (fun _ _ => ⟨rfl, e22, (by decide : 1 + 0 ≤ _), (by decide : 6 + 0 ≤ _)⟩)
  dsimp only [Pt.U, Pt.locs, Pt.cells, Pt.slots] at X25 l25 y25 z25 st25 hQ25
  rw [l25, y25, z25] at X25
  obtain ⟨rfl, N25q, e25⟩ := hQ25
  have N25 := Fr.app N22 N25q
  have K26 : ∀ t, Steps p.tables e below (T25.setTop (mkF m 128 #[.val (.long q0), .second, .val (.int p1), .val (.int p2), .val (.int p3), .val (.int p4), .val (.ref b2), .val (.int v73), .val (.int v86), .val (.int v93), .val (.int v102), .val (.int v114), .val (.int (fT (1 : Int32) v73 v93 f65)), .unset, .unset, .unset, .unset, .unset, .unset, .unset, .unset, .unset, .unset, .unset] [])) t → P0 t := by
    intro t kt
    refine K24 t ?_
    show Steps p.tables e below (T22.setTop (mkF m 116 #[.val (.long q0), .second, .val (.int p1), .val (.int p2), .val (.int p3), .val (.int p4), .val (.ref b2), .val (.int v73), .val (.int v86), .val (.int v93), .val (.int v102), .val (.int v114), .unset, .unset, .unset, .unset, .unset, .unset, .unset, .unset, .unset, .unset, .unset, .unset] [])) t
    refine XS.aload X22.here hx rfl (hb hby at_116) rfl rfl ?_
    show Steps p.tables e below (T22.setTop (mkF m 118 #[.val (.long q0), .second, .val (.int p1), .val (.int p2), .val (.int p3), .val (.int p4), .val (.ref b2), .val (.int v73), .val (.int v86), .val (.int v93), .val (.int v102), .val (.int v114), .unset, .unset, .unset, .unset, .unset, .unset, .unset, .unset, .unset, .unset, .unset, .unset] [(.ref b2)])) t
    refine XS.iconst X22.here hx rfl (hb hby at_118) ?_
    show Steps p.tables e below (T22.setTop (mkF m 119 #[.val (.long q0), .second, .val (.int p1), .val (.int p2), .val (.int p3), .val (.int p4), .val (.ref b2), .val (.int v73), .val (.int v86), .val (.int v93), .val (.int v102), .val (.int v114), .unset, .unset, .unset, .unset, .unset, .unset, .unset, .unset, .unset, .unset, .unset, .unset] [(.int (1 : Int32)), (.ref b2)])) t
    refine XS.iload X22.here hx rfl (hb hby at_119) rfl ?_
    show Steps p.tables e below (T22.setTop (mkF m 121 #[.val (.long q0), .second, .val (.int p1), .val (.int p2), .val (.int p3), .val (.int p4), .val (.ref b2), .val (.int v73), .val (.int v86), .val (.int v93), .val (.int v102), .val (.int v114), .unset, .unset, .unset, .unset, .unset, .unset, .unset, .unset, .unset, .unset, .unset, .unset] [(.int v73), (.int (1 : Int32)), (.ref b2)])) t
    refine XS.iload X22.here hx rfl (hb hby at_121) rfl ?_
    show Steps p.tables e below (T22.setTop (mkF m 123 #[.val (.long q0), .second, .val (.int p1), .val (.int p2), .val (.int p3), .val (.int p4), .val (.ref b2), .val (.int v73), .val (.int v86), .val (.int v93), .val (.int v102), .val (.int v114), .unset, .unset, .unset, .unset, .unset, .unset, .unset, .unset, .unset, .unset, .unset, .unset] [(.int v93), (.int v73), (.int (1 : Int32)), (.ref b2)])) t
    refine st25 _ ?_
    show Steps p.tables e below (T25.setTop (mkF m 126 #[.val (.long q0), .second, .val (.int p1), .val (.int p2), .val (.int p3), .val (.int p4), .val (.ref b2), .val (.int v73), .val (.int v86), .val (.int v93), .val (.int v102), .val (.int v114), .unset, .unset, .unset, .unset, .unset, .unset, .unset, .unset, .unset, .unset, .unset, .unset] [(.int (fT (1 : Int32) v73 v93 f65))])) t
    refine XS.istore X25.here hx rfl (hb hby at_126) rfl (l' := #[.val (.long q0), .second, .val (.int p1), .val (.int p2), .val (.int p3), .val (.int p4), .val (.ref b2), .val (.int v73), .val (.int v86), .val (.int v93), .val (.int v102), .val (.int v114), .val (.int (fT (1 : Int32) v73 v93 f65)), .unset, .unset, .unset, .unset, .unset, .unset, .unset, .unset, .unset, .unset, .unset]) rfl ?_
    exact kt
  obtain ⟨v126, hv126, K27⟩ : ∃ v126 : Int32, v126 = (fT (1 : Int32) v73 v93 f65) ∧ ∀ t, Steps p.tables e below (T25.setTop (mkF m 128 #[.val (.long q0), .second, .val (.int p1), .val (.int p2), .val (.int p3), .val (.int p4), .val (.ref b2), .val (.int v73), .val (.int v86), .val (.int v93), .val (.int v102), .val (.int v114), .val (.int v126), .unset, .unset, .unset, .unset, .unset, .unset, .unset, .unset, .unset, .unset, .unset] [])) t → P0 t := ⟨_, rfl, K26⟩
  obtain ⟨_, _, ⟨T28, L28, k28, n28⟩, -, X28, ⟨Lc28, hQ28, l28, y28, z28⟩, st28⟩ := Jvm.LawKit.callS X25 hx (y := (⟨"com/example/lowtide/lowtide/ColumnsStartPinLaw", "t", "([BIII)I"⟩ : MethodName)) hown (mvT hZ (hw _ (List.mem_of_getElem? (i := 6) rfl))) (mvT hZ (hw _ (List.mem_of_getElem? (i := 7) rfl))) (mvT hZ (hw _ (List.mem_of_getElem? (i := 3) rfl))) (mvT hZ (hw _ (List.mem_of_getElem? (i := 8) rfl))) (by decide) (backOf (W := 0) (rm_ttt l Z a0 hw [] b2 (2 : Int32) v73 v93 f65 h13 n0 Z13 V13' (by decide)) hZ (hw _ (List.mem_of_getElem? (i := 8) rfl)) (hw _ (List.mem_of_getElem? (i := 3) rfl)) (by decide) (by decide)) (g := (mkF m 135 #[.val (.long q0), .second, .val (.int p1), .val (.int p2), .val (.int p3), .val (.int p4), .val (.ref b2), .val (.int v73), .val (.int v86), .val (.int v93), .val (.int v102), .val (.int v114), .val (.int v126), .unset, .unset, .unset, .unset, .unset, .unset, .unset, .unset, .unset, .unset, .unset] [(.int v93), (.int v73), (.int (2 : Int32)), (.ref b2)])) rfl (by rw [hml]; rfl) (argsL := [(.ref b2), (.int (2 : Int32)), (.int v73), (.int v93)]) (rest := []) (lenOf law_pd1 rfl) rfl (by show 2 * 0 + _ ≤ _; exact Nat.le_of_eq rfl) (hb hby at_135) (fun _ _ => ⟨rfl, e25, (by decide : 1 + 0 ≤ _), (by decide : 6 + 0 ≤ _)⟩)
  dsimp only [Pt.U, Pt.locs, Pt.cells, Pt.slots] at X28 l28 y28 z28 st28 hQ28
  rw [l28, y28, z28] at X28
  obtain ⟨rfl, N28q, e28⟩ := hQ28
  have N28 := Fr.app N25 N28q
  have K29 : ∀ t, Steps p.tables e below (T28.setTop (mkF m 140 #[.val (.long q0), .second, .val (.int p1), .val (.int p2), .val (.int p3), .val (.int p4), .val (.ref b2), .val (.int v73), .val (.int v86), .val (.int v93), .val (.int v102), .val (.int v114), .val (.int v126), .val (.int (fT (2 : Int32) v73 v93 f65)), .unset, .unset, .unset, .unset, .unset, .unset, .unset, .unset, .unset, .unset] [])) t → P0 t := by
    intro t kt
    refine K27 t ?_
    show Steps p.tables e below (T25.setTop (mkF m 128 #[.val (.long q0), .second, .val (.int p1), .val (.int p2), .val (.int p3), .val (.int p4), .val (.ref b2), .val (.int v73), .val (.int v86), .val (.int v93), .val (.int v102), .val (.int v114), .val (.int v126), .unset, .unset, .unset, .unset, .unset, .unset, .unset, .unset, .unset, .unset, .unset] [])) t
    refine XS.aload X25.here hx rfl (hb hby at_128) rfl rfl ?_
    show Steps p.tables e below (T25.setTop (mkF m 130 #[.val (.long q0), .second, .val (.int p1), .val (.int p2), .val (.int p3), .val (.int p4), .val (.ref b2), .val (.int v73), .val (.int v86), .val (.int v93), .val (.int v102), .val (.int v114), .val (.int v126), .unset, .unset, .unset, .unset, .unset, .unset, .unset, .unset, .unset, .unset, .unset] [(.ref b2)])) t
    refine XS.iconst X25.here hx rfl (hb hby at_130) ?_
    show Steps p.tables e below (T25.setTop (mkF m 131 #[.val (.long q0), .second, .val (.int p1), .val (.int p2), .val (.int p3), .val (.int p4), .val (.ref b2), .val (.int v73), .val (.int v86), .val (.int v93), .val (.int v102), .val (.int v114), .val (.int v126), .unset, .unset, .unset, .unset, .unset, .unset, .unset, .unset, .unset, .unset, .unset] [(.int (2 : Int32)), (.ref b2)])) t
    refine XS.iload X25.here hx rfl (hb hby at_131) rfl ?_
    show Steps p.tables e below (T25.setTop (mkF m 133 #[.val (.long q0), .second, .val (.int p1), .val (.int p2), .val (.int p3), .val (.int p4), .val (.ref b2), .val (.int v73), .val (.int v86), .val (.int v93), .val (.int v102), .val (.int v114), .val (.int v126), .unset, .unset, .unset, .unset, .unset, .unset, .unset, .unset, .unset, .unset, .unset] [(.int v73), (.int (2 : Int32)), (.ref b2)])) t
    refine XS.iload X25.here hx rfl (hb hby at_133) rfl ?_
    show Steps p.tables e below (T25.setTop (mkF m 135 #[.val (.long q0), .second, .val (.int p1), .val (.int p2), .val (.int p3), .val (.int p4), .val (.ref b2), .val (.int v73), .val (.int v86), .val (.int v93), .val (.int v102), .val (.int v114), .val (.int v126), .unset, .unset, .unset, .unset, .unset, .unset, .unset, .unset, .unset, .unset, .unset] [(.int v93), (.int v73), (.int (2 : Int32)), (.ref b2)])) t
    refine st28 _ ?_
    show Steps p.tables e below (T28.setTop (mkF m 138 #[.val (.long q0), .second, .val (.int p1), .val (.int p2), .val (.int p3), .val (.int p4), .val (.ref b2), .val (.int v73), .val (.int v86), .val (.int v93), .val (.int v102), .val (.int v114), .val (.int v126), .unset, .unset, .unset, .unset, .unset, .unset, .unset, .unset, .unset, .unset, .unset] [(.int (fT (2 : Int32) v73 v93 f65))])) t
    refine XS.istore X28.here hx rfl (hb hby at_138) rfl (l' := #[.val (.long q0), .second, .val (.int p1), .val (.int p2), .val (.int p3), .val (.int p4), .val (.ref b2), .val (.int v73), .val (.int v86), .val (.int v93), .val (.int v102), .val (.int v114), .val (.int v126), .val (.int (fT (2 : Int32) v73 v93 f65)), .unset, .unset, .unset, .unset, .unset, .unset, .unset, .unset, .unset, .unset]) rfl ?_
    exact kt
  obtain ⟨v138, hv138, K30⟩ : ∃ v138 : Int32, v138 = (fT (2 : Int32) v73 v93 f65) ∧ ∀ t, Steps p.tables e below (T28.setTop (mkF m 140 #[.val (.long q0), .second, .val (.int p1), .val (.int p2), .val (.int p3), .val (.int p4), .val (.ref b2), .val (.int v73), .val (.int v86), .val (.int v93), .val (.int v102), .val (.int v114), .val (.int v126), .val (.int v138), .unset, .unset, .unset, .unset, .unset, .unset, .unset, .unset, .unset, .unset] [])) t → P0 t := ⟨_, rfl, K29⟩
  obtain ⟨_, _, ⟨T31, L31, k31, n31⟩, -, X31, ⟨Lc31, hQ31, l31, y31, z31⟩, st31⟩ := Jvm.LawKit.callS X28 hx (y := (⟨"com/example/lowtide/lowtide/ColumnsStartPinLaw", "t", "([BIII)I"⟩ : MethodName)) hown (mvT hZ (hw _ (List.mem_of_getElem? (i := 6) rfl))) (mvT hZ (hw _ (List.mem_of_getElem? (i := 7) rfl))) (mvT hZ (hw _ (List.mem_of_getElem? (i := 3) rfl))) (mvT hZ (hw _ (List.mem_of_getElem? (i := 8) rfl))) (by decide) (backOf (W := 0) (rm_ttt l Z a0 hw [] b2 (3 : Int32) v73 v93 f65 h13 n0 Z13 V13' (by decide)) hZ (hw _ (List.mem_of_getElem? (i := 8) rfl)) (hw _ (List.mem_of_getElem? (i := 3) rfl)) (by decide) (by decide)) (g := (mkF m 147 #[.val (.long q0), .second, .val (.int p1), .val (.int p2), .val (.int p3), .val (.int p4), .val (.ref b2), .val (.int v73), .val (.int v86), .val (.int v93), .val (.int v102), .val (.int v114), .val (.int v126), .val (.int v138), .unset, .unset, .unset, .unset, .unset, .unset, .unset, .unset, .unset, .unset] [(.int v93), (.int v73), (.int (3 : Int32)), (.ref b2)])) rfl (by rw [hml]; rfl) (argsL := [(.ref b2), (.int (3 : Int32)), (.int v73), (.int v93)]) (rest := []) (lenOf law_pd1 rfl) rfl (by show 2 * 0 + _ ≤ _; exact Nat.le_of_eq rfl) (hb hby at_147) (fun _ _ => ⟨rfl, e28, (by decide : 1 + 0 ≤ _), (by decide : 6 + 0 ≤ _)⟩)
  dsimp only [Pt.U, Pt.locs, Pt.cells, Pt.slots] at X31 l31 y31 z31 st31 hQ31
  rw [l31, y31, z31] at X31
  obtain ⟨rfl, N31q, e31⟩ := hQ31
  have N31 := Fr.app N28 N31q
  have K32 : ∀ t, Steps p.tables e below (T31.setTop (mkF m 152 #[.val (.long q0), .second, .val (.int p1), .val (.int p2), .val (.int p3), .val (.int p4), .val (.ref b2), .val (.int v73), .val (.int v86), .val (.int v93), .val (.int v102), .val (.int v114), .val (.int v126), .val (.int v138), .val (.int (fT (3 : Int32) v73 v93 f65)), .unset, .unset, .unset, .unset, .unset, .unset, .unset, .unset, .unset] [])) t → P0 t := by
    intro t kt
    refine K30 t ?_
    show Steps p.tables e below (T28.setTop (mkF m 140 #[.val (.long q0), .second, .val (.int p1), .val (.int p2), .val (.int p3), .val (.int p4), .val (.ref b2), .val (.int v73), .val (.int v86), .val (.int v93), .val (.int v102), .val (.int v114), .val (.int v126), .val (.int v138), .unset, .unset, .unset, .unset, .unset, .unset, .unset, .unset, .unset, .unset] [])) t
    refine XS.aload X28.here hx rfl (hb hby at_140) rfl rfl ?_
    show Steps p.tables e below (T28.setTop (mkF m 142 #[.val (.long q0), .second, .val (.int p1), .val (.int p2), .val (.int p3), .val (.int p4), .val (.ref b2), .val (.int v73), .val (.int v86), .val (.int v93), .val (.int v102), .val (.int v114), .val (.int v126), .val (.int v138), .unset, .unset, .unset, .unset, .unset, .unset, .unset, .unset, .unset, .unset] [(.ref b2)])) t
    refine XS.iconst X28.here hx rfl (hb hby at_142) ?_
    show Steps p.tables e below (T28.setTop (mkF m 143 #[.val (.long q0), .second, .val (.int p1), .val (.int p2), .val (.int p3), .val (.int p4), .val (.ref b2), .val (.int v73), .val (.int v86), .val (.int v93), .val (.int v102), .val (.int v114), .val (.int v126), .val (.int v138), .unset, .unset, .unset, .unset, .unset, .unset, .unset, .unset, .unset, .unset] [(.int (3 : Int32)), (.ref b2)])) t
    refine XS.iload X28.here hx rfl (hb hby at_143) rfl ?_
    show Steps p.tables e below (T28.setTop (mkF m 145 #[.val (.long q0), .second, .val (.int p1), .val (.int p2), .val (.int p3), .val (.int p4), .val (.ref b2), .val (.int v73), .val (.int v86), .val (.int v93), .val (.int v102), .val (.int v114), .val (.int v126), .val (.int v138), .unset, .unset, .unset, .unset, .unset, .unset, .unset, .unset, .unset, .unset] [(.int v73), (.int (3 : Int32)), (.ref b2)])) t
    refine XS.iload X28.here hx rfl (hb hby at_145) rfl ?_
    show Steps p.tables e below (T28.setTop (mkF m 147 #[.val (.long q0), .second, .val (.int p1), .val (.int p2), .val (.int p3), .val (.int p4), .val (.ref b2), .val (.int v73), .val (.int v86), .val (.int v93), .val (.int v102), .val (.int v114), .val (.int v126), .val (.int v138), .unset, .unset, .unset, .unset, .unset, .unset, .unset, .unset, .unset, .unset] [(.int v93), (.int v73), (.int (3 : Int32)), (.ref b2)])) t
    refine st31 _ ?_
    show Steps p.tables e below (T31.setTop (mkF m 150 #[.val (.long q0), .second, .val (.int p1), .val (.int p2), .val (.int p3), .val (.int p4), .val (.ref b2), .val (.int v73), .val (.int v86), .val (.int v93), .val (.int v102), .val (.int v114), .val (.int v126), .val (.int v138), .unset, .unset, .unset, .unset, .unset, .unset, .unset, .unset, .unset, .unset] [(.int (fT (3 : Int32) v73 v93 f65))])) t
    refine XS.istore X31.here hx rfl (hb hby at_150) rfl (l' := #[.val (.long q0), .second, .val (.int p1), .val (.int p2), .val (.int p3), .val (.int p4), .val (.ref b2), .val (.int v73), .val (.int v86), .val (.int v93), .val (.int v102), .val (.int v114), .val (.int v126), .val (.int v138), .val (.int (fT (3 : Int32) v73 v93 f65)), .unset, .unset, .unset, .unset, .unset, .unset, .unset, .unset, .unset]) rfl ?_
    exact kt
  obtain ⟨v150, hv150, K33⟩ : ∃ v150 : Int32, v150 = (fT (3 : Int32) v73 v93 f65) ∧ ∀ t, Steps p.tables e below (T31.setTop (mkF m 152 #[.val (.long q0), .second, .val (.int p1), .val (.int p2), .val (.int p3), .val (.int p4), .val (.ref b2), .val (.int v73), .val (.int v86), .val (.int v93), .val (.int v102), .val (.int v114), .val (.int v126), .val (.int v138), .val (.int v150), .unset, .unset, .unset, .unset, .unset, .unset, .unset, .unset, .unset] [])) t → P0 t := ⟨_, rfl, K32⟩
  obtain ⟨_, _, ⟨T34, L34, k34, n34⟩, -, X34, ⟨Lc34, hQ34, l34, y34, z34⟩, st34⟩ := Jvm.LawKit.callS X31 hx (y := (⟨"com/example/lowtide/lowtide/ColumnsStartPinLaw", "t", "([BIII)I"⟩ : MethodName)) hown (mvT hZ (hw _ (List.mem_of_getElem? (i := 6) rfl))) (mvT hZ (hw _ (List.mem_of_getElem? (i := 7) rfl))) (mvT hZ (hw _ (List.mem_of_getElem? (i := 3) rfl))) (mvT hZ (hw _ (List.mem_of_getElem? (i := 8) rfl))) (by decide) (backOf (W := 0) (rm_ttt l Z a0 hw [] b2 (4 : Int32) v73 v93 f65 h13 n0 Z13 V13' (by decide)) hZ (hw _ (List.mem_of_getElem? (i := 8) rfl)) (hw _ (List.mem_of_getElem? (i := 3) rfl)) (by decide) (by decide)) (g := (mkF m 159 #[.val (.long q0), .second, .val (.int p1), .val (.int p2), .val (.int p3), .val (.int p4), .val (.ref b2), .val (.int v73), .val (.int v86), .val (.int v93), .val (.int v102), .val (.int v114), .val (.int v126), .val (.int v138), .val (.int v150), .unset, .unset, .unset, .unset, .unset, .unset, .unset, .unset, .unset] [(.int v93), (.int v73), (.int (4 : Int32)), (.ref b2)])) rfl (by rw [hml]; rfl) (argsL := [(.ref b2), (.int (4 : Int32)), (.int v73), (.int v93)]) (rest := []) (lenOf law_pd1 rfl) rfl (by show 2 * 0 + _ ≤ _; exact Nat.le_of_eq rfl) (hb hby at_159) (fun _ _ => ⟨rfl, e31, (by decide : 1 + 0 ≤ _), (by decide : 6 + 0 ≤ _)⟩)
  dsimp only [Pt.U, Pt.locs, Pt.cells, Pt.slots] at X34 l34 y34 z34 st34 hQ34
  rw [l34, y34, z34] at X34
  obtain ⟨rfl, N34q, e34⟩ := hQ34
  have N34 := Fr.app N31 N34q
  have K35 : ∀ t, Steps p.tables e below (T34.setTop (mkF m 164 #[.val (.long q0), .second, .val (.int p1), .val (.int p2), .val (.int p3), .val (.int p4), .val (.ref b2), .val (.int v73), .val (.int v86), .val (.int v93), .val (.int v102), .val (.int v114), .val (.int v126), .val (.int v138), .val (.int v150), .val (.int (fT (4 : Int32) v73 v93 f65)), .unset, .unset, .unset, .unset, .unset, .unset, .unset, .unset] [])) t → P0 t := by
    intro t kt
    refine K33 t ?_
    show Steps p.tables e below (T31.setTop (mkF m 152 #[.val (.long q0), .second, .val (.int p1), .val (.int p2), .val (.int p3), .val (.int p4), .val (.ref b2), .val (.int v73), .val (.int v86), .val (.int v93), .val (.int v102), .val (.int v114), .val (.int v126), .val (.int v138), .val (.int v150), .unset, .unset, .unset, .unset, .unset, .unset, .unset, .unset, .unset] [])) t
    refine XS.aload X31.here hx rfl (hb hby at_152) rfl rfl ?_
    show Steps p.tables e below (T31.setTop (mkF m 154 #[.val (.long q0), .second, .val (.int p1), .val (.int p2), .val (.int p3), .val (.int p4), .val (.ref b2), .val (.int v73), .val (.int v86), .val (.int v93), .val (.int v102), .val (.int v114), .val (.int v126), .val (.int v138), .val (.int v150), .unset, .unset, .unset, .unset, .unset, .unset, .unset, .unset, .unset] [(.ref b2)])) t
    refine XS.iconst X31.here hx rfl (hb hby at_154) ?_
    show Steps p.tables e below (T31.setTop (mkF m 155 #[.val (.long q0), .second, .val (.int p1), .val (.int p2), .val (.int p3), .val (.int p4), .val (.ref b2), .val (.int v73), .val (.int v86), .val (.int v93), .val (.int v102), .val (.int v114), .val (.int v126), .val (.int v138), .val (.int v150), .unset, .unset, .unset, .unset, .unset, .unset, .unset, .unset, .unset] [(.int (4 : Int32)), (.ref b2)])) t
    refine XS.iload X31.here hx rfl (hb hby at_155) rfl ?_
    show Steps p.tables e below (T31.setTop (mkF m 157 #[.val (.long q0), .second, .val (.int p1), .val (.int p2), .val (.int p3), .val (.int p4), .val (.ref b2), .val (.int v73), .val (.int v86), .val (.int v93), .val (.int v102), .val (.int v114), .val (.int v126), .val (.int v138), .val (.int v150), .unset, .unset, .unset, .unset, .unset, .unset, .unset, .unset, .unset] [(.int v73), (.int (4 : Int32)), (.ref b2)])) t
    refine XS.iload X31.here hx rfl (hb hby at_157) rfl ?_
    show Steps p.tables e below (T31.setTop (mkF m 159 #[.val (.long q0), .second, .val (.int p1), .val (.int p2), .val (.int p3), .val (.int p4), .val (.ref b2), .val (.int v73), .val (.int v86), .val (.int v93), .val (.int v102), .val (.int v114), .val (.int v126), .val (.int v138), .val (.int v150), .unset, .unset, .unset, .unset, .unset, .unset, .unset, .unset, .unset] [(.int v93), (.int v73), (.int (4 : Int32)), (.ref b2)])) t
    refine st34 _ ?_
    show Steps p.tables e below (T34.setTop (mkF m 162 #[.val (.long q0), .second, .val (.int p1), .val (.int p2), .val (.int p3), .val (.int p4), .val (.ref b2), .val (.int v73), .val (.int v86), .val (.int v93), .val (.int v102), .val (.int v114), .val (.int v126), .val (.int v138), .val (.int v150), .unset, .unset, .unset, .unset, .unset, .unset, .unset, .unset, .unset] [(.int (fT (4 : Int32) v73 v93 f65))])) t
    refine XS.istore X34.here hx rfl (hb hby at_162) rfl (l' := #[.val (.long q0), .second, .val (.int p1), .val (.int p2), .val (.int p3), .val (.int p4), .val (.ref b2), .val (.int v73), .val (.int v86), .val (.int v93), .val (.int v102), .val (.int v114), .val (.int v126), .val (.int v138), .val (.int v150), .val (.int (fT (4 : Int32) v73 v93 f65)), .unset, .unset, .unset, .unset, .unset, .unset, .unset, .unset]) rfl ?_
    exact kt
  obtain ⟨v162, hv162, K36⟩ : ∃ v162 : Int32, v162 = (fT (4 : Int32) v73 v93 f65) ∧ ∀ t, Steps p.tables e below (T34.setTop (mkF m 164 #[.val (.long q0), .second, .val (.int p1), .val (.int p2), .val (.int p3), .val (.int p4), .val (.ref b2), .val (.int v73), .val (.int v86), .val (.int v93), .val (.int v102), .val (.int v114), .val (.int v126), .val (.int v138), .val (.int v150), .val (.int v162), .unset, .unset, .unset, .unset, .unset, .unset, .unset, .unset] [])) t → P0 t := ⟨_, rfl, K35⟩
  obtain ⟨_, _, ⟨T37, L37, k37, n37⟩, -, X37, ⟨Lc37, hQ37, l37, y37, z37⟩, st37⟩ := Jvm.LawKit.callS X34 hx (y := (⟨"com/example/lowtide/lowtide/ColumnsStartPinLaw", "t", "([BIII)I"⟩ : MethodName)) hown (mvT hZ (hw _ (List.mem_of_getElem? (i := 6) rfl))) (mvT hZ (hw _ (List.mem_of_getElem? (i := 7) rfl))) (mvT hZ (hw _ (List.mem_of_getElem? (i := 3) rfl))) (mvT hZ (hw _ (List.mem_of_getElem? (i := 8) rfl))) (by decide) (backOf (W := 0) (rm_ttt l Z a0 hw [] b2 (5 : Int32) v73 v93 f65 h13 n0 Z13 V13' (by decide)) hZ (hw _ (List.mem_of_getElem? (i := 8) rfl)) (hw _ (List.mem_of_getElem? (i := 3) rfl)) (by decide) (by decide)) (g := (mkF m 171 #[.val (.long q0), .second, .val (.int p1), .val (.int p2), .val (.int p3), .val (.int p4), .val (.ref b2), .val (.int v73), .val (.int v86), .val (.int v93), .val (.int v102), .val (.int v114), .val (.int v126), .val (.int v138), .val (.int v150), .val (.int v162), .unset, .unset, .unset, .unset, .unset, .unset, .unset, .unset] [(.int v93), (.int v73), (.int (5 : Int32)), (.ref b2)])) rfl (by rw [hml]; rfl) (argsL := [(.ref b2), (.int (5 : Int32)), (.int v73), (.int v93)]) (rest := []) (lenOf law_pd1 rfl) rfl (by show 2 * 0 + _ ≤ _; exact Nat.le_of_eq rfl) (hb hby at_171) (fun _ _ => ⟨rfl, e34, (by decide : 1 + 0 ≤ _), (by decide : 6 + 0 ≤ _)⟩)
  dsimp only [Pt.U, Pt.locs, Pt.cells, Pt.slots] at X37 l37 y37 z37 st37 hQ37
  rw [l37, y37, z37] at X37
  obtain ⟨rfl, N37q, e37⟩ := hQ37
  have N37 := Fr.app N34 N37q
  have K38 : ∀ t, Steps p.tables e below (T37.setTop (mkF m 176 #[.val (.long q0), .second, .val (.int p1), .val (.int p2), .val (.int p3), .val (.int p4), .val (.ref b2), .val (.int v73), .val (.int v86), .val (.int v93), .val (.int v102), .val (.int v114), .val (.int v126), .val (.int v138), .val (.int v150), .val (.int v162), .val (.int (fT (5 : Int32) v73 v93 f65)), .unset, .unset, .unset, .unset, .unset, .unset, .unset] [])) t → P0 t := by
    intro t kt
    refine K36 t ?_
    show Steps p.tables e below (T34.setTop (mkF m 164 #[.val (.long q0), .second, .val (.int p1), .val (.int p2), .val (.int p3), .val (.int p4), .val (.ref b2), .val (.int v73), .val (.int v86), .val (.int v93), .val (.int v102), .val (.int v114), .val (.int v126), .val (.int v138), .val (.int v150), .val (.int v162), .unset, .unset, .unset, .unset, .unset, .unset, .unset, .unset] [])) t
    refine XS.aload X34.here hx rfl (hb hby at_164) rfl rfl ?_
    show Steps p.tables e below (T34.setTop (mkF m 166 #[.val (.long q0), .second, .val (.int p1), .val (.int p2), .val (.int p3), .val (.int p4), .val (.ref b2), .val (.int v73), .val (.int v86), .val (.int v93), .val (.int v102), .val (.int v114), .val (.int v126), .val (.int v138), .val (.int v150), .val (.int v162), .unset, .unset, .unset, .unset, .unset, .unset, .unset, .unset] [(.ref b2)])) t
    refine XS.iconst X34.here hx rfl (hb hby at_166) ?_
    show Steps p.tables e below (T34.setTop (mkF m 167 #[.val (.long q0), .second, .val (.int p1), .val (.int p2), .val (.int p3), .val (.int p4), .val (.ref b2), .val (.int v73), .val (.int v86), .val (.int v93), .val (.int v102), .val (.int v114), .val (.int v126), .val (.int v138), .val (.int v150), .val (.int v162), .unset, .unset, .unset, .unset, .unset, .unset, .unset, .unset] [(.int (5 : Int32)), (.ref b2)])) t
    refine XS.iload X34.here hx rfl (hb hby at_167) rfl ?_
    show Steps p.tables e below (T34.setTop (mkF m 169 #[.val (.long q0), .second, .val (.int p1), .val (.int p2), .val (.int p3), .val (.int p4), .val (.ref b2), .val (.int v73), .val (.int v86), .val (.int v93), .val (.int v102), .val (.int v114), .val (.int v126), .val (.int v138), .val (.int v150), .val (.int v162), .unset, .unset, .unset, .unset, .unset, .unset, .unset, .unset] [(.int v73), (.int (5 : Int32)), (.ref b2)])) t
    refine XS.iload X34.here hx rfl (hb hby at_169) rfl ?_
    show Steps p.tables e below (T34.setTop (mkF m 171 #[.val (.long q0), .second, .val (.int p1), .val (.int p2), .val (.int p3), .val (.int p4), .val (.ref b2), .val (.int v73), .val (.int v86), .val (.int v93), .val (.int v102), .val (.int v114), .val (.int v126), .val (.int v138), .val (.int v150), .val (.int v162), .unset, .unset, .unset, .unset, .unset, .unset, .unset, .unset] [(.int v93), (.int v73), (.int (5 : Int32)), (.ref b2)])) t
    refine st37 _ ?_
    show Steps p.tables e below (T37.setTop (mkF m 174 #[.val (.long q0), .second, .val (.int p1), .val (.int p2), .val (.int p3), .val (.int p4), .val (.ref b2), .val (.int v73), .val (.int v86), .val (.int v93), .val (.int v102), .val (.int v114), .val (.int v126), .val (.int v138), .val (.int v150), .val (.int v162), .unset, .unset, .unset, .unset, .unset, .unset, .unset, .unset] [(.int (fT (5 : Int32) v73 v93 f65))])) t
    refine XS.istore X37.here hx rfl (hb hby at_174) rfl (l' := #[.val (.long q0), .second, .val (.int p1), .val (.int p2), .val (.int p3), .val (.int p4), .val (.ref b2), .val (.int v73), .val (.int v86), .val (.int v93), .val (.int v102), .val (.int v114), .val (.int v126), .val (.int v138), .val (.int v150), .val (.int v162), .val (.int (fT (5 : Int32) v73 v93 f65)), .unset, .unset, .unset, .unset, .unset, .unset, .unset]) rfl ?_
    exact kt
  obtain ⟨v174, hv174, K39⟩ : ∃ v174 : Int32, v174 = (fT (5 : Int32) v73 v93 f65) ∧ ∀ t, Steps p.tables e below (T37.setTop (mkF m 176 #[.val (.long q0), .second, .val (.int p1), .val (.int p2), .val (.int p3), .val (.int p4), .val (.ref b2), .val (.int v73), .val (.int v86), .val (.int v93), .val (.int v102), .val (.int v114), .val (.int v126), .val (.int v138), .val (.int v150), .val (.int v162), .val (.int v174), .unset, .unset, .unset, .unset, .unset, .unset, .unset] [])) t → P0 t := ⟨_, rfl, K38⟩
  have K40 : ∀ t, Steps p.tables e below (T37.setTop (mkF m 186 #[.val (.long q0), .second, .val (.int p1), .val (.int p2), .val (.int p3), .val (.int p4), .val (.ref b2), .val (.int v73), .val (.int v86), .val (.int v93), .val (.int v102), .val (.int v114), .val (.int v126), .val (.int v138), .val (.int v150), .val (.int v162), .val (.int v174), .val (.int (0 : Int32)), .val (.int ((0 : Int32) + v114)), .unset, .unset, .unset, .unset, .unset] [])) t → P0 t := by
    intro t kt
    refine K39 t ?_
    show Steps p.tables e below (T37.setTop (mkF m 176 #[.val (.long q0), .second, .val (.int p1), .val (.int p2), .val (.int p3), .val (.int p4), .val (.ref b2), .val (.int v73), .val (.int v86), .val (.int v93), .val (.int v102), .val (.int v114), .val (.int v126), .val (.int v138), .val (.int v150), .val (.int v162), .val (.int v174), .unset, .unset, .unset, .unset, .unset, .unset, .unset] [])) t
    refine XS.iconst X37.here hx rfl (hb hby at_176) ?_
    show Steps p.tables e below (T37.setTop (mkF m 177 #[.val (.long q0), .second, .val (.int p1), .val (.int p2), .val (.int p3), .val (.int p4), .val (.ref b2), .val (.int v73), .val (.int v86), .val (.int v93), .val (.int v102), .val (.int v114), .val (.int v126), .val (.int v138), .val (.int v150), .val (.int v162), .val (.int v174), .unset, .unset, .unset, .unset, .unset, .unset, .unset] [(.int (0 : Int32))])) t
    refine XS.istore X37.here hx rfl (hb hby at_177) rfl (l' := #[.val (.long q0), .second, .val (.int p1), .val (.int p2), .val (.int p3), .val (.int p4), .val (.ref b2), .val (.int v73), .val (.int v86), .val (.int v93), .val (.int v102), .val (.int v114), .val (.int v126), .val (.int v138), .val (.int v150), .val (.int v162), .val (.int v174), .val (.int (0 : Int32)), .unset, .unset, .unset, .unset, .unset, .unset]) rfl ?_
    show Steps p.tables e below (T37.setTop (mkF m 179 #[.val (.long q0), .second, .val (.int p1), .val (.int p2), .val (.int p3), .val (.int p4), .val (.ref b2), .val (.int v73), .val (.int v86), .val (.int v93), .val (.int v102), .val (.int v114), .val (.int v126), .val (.int v138), .val (.int v150), .val (.int v162), .val (.int v174), .val (.int (0 : Int32)), .unset, .unset, .unset, .unset, .unset, .unset] [])) t
    refine XS.iload X37.here hx rfl (hb hby at_179) rfl ?_
    show Steps p.tables e below (T37.setTop (mkF m 181 #[.val (.long q0), .second, .val (.int p1), .val (.int p2), .val (.int p3), .val (.int p4), .val (.ref b2), .val (.int v73), .val (.int v86), .val (.int v93), .val (.int v102), .val (.int v114), .val (.int v126), .val (.int v138), .val (.int v150), .val (.int v162), .val (.int v174), .val (.int (0 : Int32)), .unset, .unset, .unset, .unset, .unset, .unset] [(.int (0 : Int32))])) t
    refine XS.iload X37.here hx rfl (hb hby at_181) rfl ?_
    show Steps p.tables e below (T37.setTop (mkF m 183 #[.val (.long q0), .second, .val (.int p1), .val (.int p2), .val (.int p3), .val (.int p4), .val (.ref b2), .val (.int v73), .val (.int v86), .val (.int v93), .val (.int v102), .val (.int v114), .val (.int v126), .val (.int v138), .val (.int v150), .val (.int v162), .val (.int v174), .val (.int (0 : Int32)), .unset, .unset, .unset, .unset, .unset, .unset] [(.int v114), (.int (0 : Int32))])) t
    refine XS.iadd X37.here hx rfl (hb hby at_183) rfl ?_
    show Steps p.tables e below (T37.setTop (mkF m 184 #[.val (.long q0), .second, .val (.int p1), .val (.int p2), .val (.int p3), .val (.int p4), .val (.ref b2), .val (.int v73), .val (.int v86), .val (.int v93), .val (.int v102), .val (.int v114), .val (.int v126), .val (.int v138), .val (.int v150), .val (.int v162), .val (.int v174), .val (.int (0 : Int32)), .unset, .unset, .unset, .unset, .unset, .unset] [(.int ((0 : Int32) + v114))])) t
    refine XS.istore X37.here hx rfl (hb hby at_184) rfl (l' := #[.val (.long q0), .second, .val (.int p1), .val (.int p2), .val (.int p3), .val (.int p4), .val (.ref b2), .val (.int v73), .val (.int v86), .val (.int v93), .val (.int v102), .val (.int v114), .val (.int v126), .val (.int v138), .val (.int v150), .val (.int v162), .val (.int v174), .val (.int (0 : Int32)), .val (.int ((0 : Int32) + v114)), .unset, .unset, .unset, .unset, .unset]) rfl ?_
    exact kt
  obtain ⟨v184, hv184, K41⟩ : ∃ v184 : Int32, v184 = ((0 : Int32) + v114) ∧ ∀ t, Steps p.tables e below (T37.setTop (mkF m 186 #[.val (.long q0), .second, .val (.int p1), .val (.int p2), .val (.int p3), .val (.int p4), .val (.ref b2), .val (.int v73), .val (.int v86), .val (.int v93), .val (.int v102), .val (.int v114), .val (.int v126), .val (.int v138), .val (.int v150), .val (.int v162), .val (.int v174), .val (.int (0 : Int32)), .val (.int v184), .unset, .unset, .unset, .unset, .unset] [])) t → P0 t := ⟨_, rfl, K40⟩
  have K42 : ∀ t, Steps p.tables e below (T37.setTop (mkF m 193 #[.val (.long q0), .second, .val (.int p1), .val (.int p2), .val (.int p3), .val (.int p4), .val (.ref b2), .val (.int v73), .val (.int v86), .val (.int v93), .val (.int v102), .val (.int v114), .val (.int v126), .val (.int v138), .val (.int v150), .val (.int v162), .val (.int v174), .val (.int (0 : Int32)), .val (.int v184), .val (.int (v184 + v126)), .unset, .unset, .unset, .unset] [])) t → P0 t := by
    intro t kt
    refine K41 t ?_
    show Steps p.tables e below (T37.setTop (mkF m 186 #[.val (.long q0), .second, .val (.int p1), .val (.int p2), .val (.int p3), .val (.int p4), .val (.ref b2), .val (.int v73), .val (.int v86), .val (.int v93), .val (.int v102), .val (.int v114), .val (.int v126), .val (.int v138), .val (.int v150), .val (.int v162), .val (.int v174), .val (.int (0 : Int32)), .val (.int v184), .unset, .unset, .unset, .unset, .unset] [])) t
    refine XS.iload X37.here hx rfl (hb hby at_186) rfl ?_
    show Steps p.tables e below (T37.setTop (mkF m 188 #[.val (.long q0), .second, .val (.int p1), .val (.int p2), .val (.int p3), .val (.int p4), .val (.ref b2), .val (.int v73), .val (.int v86), .val (.int v93), .val (.int v102), .val (.int v114), .val (.int v126), .val (.int v138), .val (.int v150), .val (.int v162), .val (.int v174), .val (.int (0 : Int32)), .val (.int v184), .unset, .unset, .unset, .unset, .unset] [(.int v184)])) t
    refine XS.iload X37.here hx rfl (hb hby at_188) rfl ?_
    show Steps p.tables e below (T37.setTop (mkF m 190 #[.val (.long q0), .second, .val (.int p1), .val (.int p2), .val (.int p3), .val (.int p4), .val (.ref b2), .val (.int v73), .val (.int v86), .val (.int v93), .val (.int v102), .val (.int v114), .val (.int v126), .val (.int v138), .val (.int v150), .val (.int v162), .val (.int v174), .val (.int (0 : Int32)), .val (.int v184), .unset, .unset, .unset, .unset, .unset] [(.int v126), (.int v184)])) t
    refine XS.iadd X37.here hx rfl (hb hby at_190) rfl ?_
    show Steps p.tables e below (T37.setTop (mkF m 191 #[.val (.long q0), .second, .val (.int p1), .val (.int p2), .val (.int p3), .val (.int p4), .val (.ref b2), .val (.int v73), .val (.int v86), .val (.int v93), .val (.int v102), .val (.int v114), .val (.int v126), .val (.int v138), .val (.int v150), .val (.int v162), .val (.int v174), .val (.int (0 : Int32)), .val (.int v184), .unset, .unset, .unset, .unset, .unset] [(.int (v184 + v126))])) t
    refine XS.istore X37.here hx rfl (hb hby at_191) rfl (l' := #[.val (.long q0), .second, .val (.int p1), .val (.int p2), .val (.int p3), .val (.int p4), .val (.ref b2), .val (.int v73), .val (.int v86), .val (.int v93), .val (.int v102), .val (.int v114), .val (.int v126), .val (.int v138), .val (.int v150), .val (.int v162), .val (.int v174), .val (.int (0 : Int32)), .val (.int v184), .val (.int (v184 + v126)), .unset, .unset, .unset, .unset]) rfl ?_
    exact kt
  obtain ⟨v191, hv191, K43⟩ : ∃ v191 : Int32, v191 = (v184 + v126) ∧ ∀ t, Steps p.tables e below (T37.setTop (mkF m 193 #[.val (.long q0), .second, .val (.int p1), .val (.int p2), .val (.int p3), .val (.int p4), .val (.ref b2), .val (.int v73), .val (.int v86), .val (.int v93), .val (.int v102), .val (.int v114), .val (.int v126), .val (.int v138), .val (.int v150), .val (.int v162), .val (.int v174), .val (.int (0 : Int32)), .val (.int v184), .val (.int v191), .unset, .unset, .unset, .unset] [])) t → P0 t := ⟨_, rfl, K42⟩
  have K44 : ∀ t, Steps p.tables e below (T37.setTop (mkF m 200 #[.val (.long q0), .second, .val (.int p1), .val (.int p2), .val (.int p3), .val (.int p4), .val (.ref b2), .val (.int v73), .val (.int v86), .val (.int v93), .val (.int v102), .val (.int v114), .val (.int v126), .val (.int v138), .val (.int v150), .val (.int v162), .val (.int v174), .val (.int (0 : Int32)), .val (.int v184), .val (.int v191), .val (.int (v191 + v138)), .unset, .unset, .unset] [])) t → P0 t := by
    intro t kt
    refine K43 t ?_
    show Steps p.tables e below (T37.setTop (mkF m 193 #[.val (.long q0), .second, .val (.int p1), .val (.int p2), .val (.int p3), .val (.int p4), .val (.ref b2), .val (.int v73), .val (.int v86), .val (.int v93), .val (.int v102), .val (.int v114), .val (.int v126), .val (.int v138), .val (.int v150), .val (.int v162), .val (.int v174), .val (.int (0 : Int32)), .val (.int v184), .val (.int v191), .unset, .unset, .unset, .unset] [])) t
    refine XS.iload X37.here hx rfl (hb hby at_193) rfl ?_
    show Steps p.tables e below (T37.setTop (mkF m 195 #[.val (.long q0), .second, .val (.int p1), .val (.int p2), .val (.int p3), .val (.int p4), .val (.ref b2), .val (.int v73), .val (.int v86), .val (.int v93), .val (.int v102), .val (.int v114), .val (.int v126), .val (.int v138), .val (.int v150), .val (.int v162), .val (.int v174), .val (.int (0 : Int32)), .val (.int v184), .val (.int v191), .unset, .unset, .unset, .unset] [(.int v191)])) t
    refine XS.iload X37.here hx rfl (hb hby at_195) rfl ?_
    show Steps p.tables e below (T37.setTop (mkF m 197 #[.val (.long q0), .second, .val (.int p1), .val (.int p2), .val (.int p3), .val (.int p4), .val (.ref b2), .val (.int v73), .val (.int v86), .val (.int v93), .val (.int v102), .val (.int v114), .val (.int v126), .val (.int v138), .val (.int v150), .val (.int v162), .val (.int v174), .val (.int (0 : Int32)), .val (.int v184), .val (.int v191), .unset, .unset, .unset, .unset] [(.int v138), (.int v191)])) t
    refine XS.iadd X37.here hx rfl (hb hby at_197) rfl ?_
    show Steps p.tables e below (T37.setTop (mkF m 198 #[.val (.long q0), .second, .val (.int p1), .val (.int p2), .val (.int p3), .val (.int p4), .val (.ref b2), .val (.int v73), .val (.int v86), .val (.int v93), .val (.int v102), .val (.int v114), .val (.int v126), .val (.int v138), .val (.int v150), .val (.int v162), .val (.int v174), .val (.int (0 : Int32)), .val (.int v184), .val (.int v191), .unset, .unset, .unset, .unset] [(.int (v191 + v138))])) t
    refine XS.istore X37.here hx rfl (hb hby at_198) rfl (l' := #[.val (.long q0), .second, .val (.int p1), .val (.int p2), .val (.int p3), .val (.int p4), .val (.ref b2), .val (.int v73), .val (.int v86), .val (.int v93), .val (.int v102), .val (.int v114), .val (.int v126), .val (.int v138), .val (.int v150), .val (.int v162), .val (.int v174), .val (.int (0 : Int32)), .val (.int v184), .val (.int v191), .val (.int (v191 + v138)), .unset, .unset, .unset]) rfl ?_
    exact kt
  obtain ⟨v198, hv198, K45⟩ : ∃ v198 : Int32, v198 = (v191 + v138) ∧ ∀ t, Steps p.tables e below (T37.setTop (mkF m 200 #[.val (.long q0), .second, .val (.int p1), .val (.int p2), .val (.int p3), .val (.int p4), .val (.ref b2), .val (.int v73), .val (.int v86), .val (.int v93), .val (.int v102), .val (.int v114), .val (.int v126), .val (.int v138), .val (.int v150), .val (.int v162), .val (.int v174), .val (.int (0 : Int32)), .val (.int v184), .val (.int v191), .val (.int v198), .unset, .unset, .unset] [])) t → P0 t := ⟨_, rfl, K44⟩
  have K46 : ∀ t, Steps p.tables e below (T37.setTop (mkF m 207 #[.val (.long q0), .second, .val (.int p1), .val (.int p2), .val (.int p3), .val (.int p4), .val (.ref b2), .val (.int v73), .val (.int v86), .val (.int v93), .val (.int v102), .val (.int v114), .val (.int v126), .val (.int v138), .val (.int v150), .val (.int v162), .val (.int v174), .val (.int (0 : Int32)), .val (.int v184), .val (.int v191), .val (.int v198), .val (.int (v198 + v150)), .unset, .unset] [])) t → P0 t := by
    intro t kt
    refine K45 t ?_
    show Steps p.tables e below (T37.setTop (mkF m 200 #[.val (.long q0), .second, .val (.int p1), .val (.int p2), .val (.int p3), .val (.int p4), .val (.ref b2), .val (.int v73), .val (.int v86), .val (.int v93), .val (.int v102), .val (.int v114), .val (.int v126), .val (.int v138), .val (.int v150), .val (.int v162), .val (.int v174), .val (.int (0 : Int32)), .val (.int v184), .val (.int v191), .val (.int v198), .unset, .unset, .unset] [])) t
    refine XS.iload X37.here hx rfl (hb hby at_200) rfl ?_
    show Steps p.tables e below (T37.setTop (mkF m 202 #[.val (.long q0), .second, .val (.int p1), .val (.int p2), .val (.int p3), .val (.int p4), .val (.ref b2), .val (.int v73), .val (.int v86), .val (.int v93), .val (.int v102), .val (.int v114), .val (.int v126), .val (.int v138), .val (.int v150), .val (.int v162), .val (.int v174), .val (.int (0 : Int32)), .val (.int v184), .val (.int v191), .val (.int v198), .unset, .unset, .unset] [(.int v198)])) t
    refine XS.iload X37.here hx rfl (hb hby at_202) rfl ?_
    show Steps p.tables e below (T37.setTop (mkF m 204 #[.val (.long q0), .second, .val (.int p1), .val (.int p2), .val (.int p3), .val (.int p4), .val (.ref b2), .val (.int v73), .val (.int v86), .val (.int v93), .val (.int v102), .val (.int v114), .val (.int v126), .val (.int v138), .val (.int v150), .val (.int v162), .val (.int v174), .val (.int (0 : Int32)), .val (.int v184), .val (.int v191), .val (.int v198), .unset, .unset, .unset] [(.int v150), (.int v198)])) t
    refine XS.iadd X37.here hx rfl (hb hby at_204) rfl ?_
    show Steps p.tables e below (T37.setTop (mkF m 205 #[.val (.long q0), .second, .val (.int p1), .val (.int p2), .val (.int p3), .val (.int p4), .val (.ref b2), .val (.int v73), .val (.int v86), .val (.int v93), .val (.int v102), .val (.int v114), .val (.int v126), .val (.int v138), .val (.int v150), .val (.int v162), .val (.int v174), .val (.int (0 : Int32)), .val (.int v184), .val (.int v191), .val (.int v198), .unset, .unset, .unset] [(.int (v198 + v150))])) t
    refine XS.istore X37.here hx rfl (hb hby at_205) rfl (l' := #[.val (.long q0), .second, .val (.int p1), .val (.int p2), .val (.int p3), .val (.int p4), .val (.ref b2), .val (.int v73), .val (.int v86), .val (.int v93), .val (.int v102), .val (.int v114), .val (.int v126), .val (.int v138), .val (.int v150), .val (.int v162), .val (.int v174), .val (.int (0 : Int32)), .val (.int v184), .val (.int v191), .val (.int v198), .val (.int (v198 + v150)), .unset, .unset]) rfl ?_
    exact kt
  obtain ⟨v205, hv205, K47⟩ : ∃ v205 : Int32, v205 = (v198 + v150) ∧ ∀ t, Steps p.tables e below (T37.setTop (mkF m 207 #[.val (.long q0), .second, .val (.int p1), .val (.int p2), .val (.int p3), .val (.int p4), .val (.ref b2), .val (.int v73), .val (.int v86), .val (.int v93), .val (.int v102), .val (.int v114), .val (.int v126), .val (.int v138), .val (.int v150), .val (.int v162), .val (.int v174), .val (.int (0 : Int32)), .val (.int v184), .val (.int v191), .val (.int v198), .val (.int v205), .unset, .unset] [])) t → P0 t := ⟨_, rfl, K46⟩
  have K48 : ∀ t, Steps p.tables e below (T37.setTop (mkF m 214 #[.val (.long q0), .second, .val (.int p1), .val (.int p2), .val (.int p3), .val (.int p4), .val (.ref b2), .val (.int v73), .val (.int v86), .val (.int v93), .val (.int v102), .val (.int v114), .val (.int v126), .val (.int v138), .val (.int v150), .val (.int v162), .val (.int v174), .val (.int (0 : Int32)), .val (.int v184), .val (.int v191), .val (.int v198), .val (.int v205), .val (.int (v205 + v162)), .unset] [])) t → P0 t := by
    intro t kt
    refine K47 t ?_
    show Steps p.tables e below (T37.setTop (mkF m 207 #[.val (.long q0), .second, .val (.int p1), .val (.int p2), .val (.int p3), .val (.int p4), .val (.ref b2), .val (.int v73), .val (.int v86), .val (.int v93), .val (.int v102), .val (.int v114), .val (.int v126), .val (.int v138), .val (.int v150), .val (.int v162), .val (.int v174), .val (.int (0 : Int32)), .val (.int v184), .val (.int v191), .val (.int v198), .val (.int v205), .unset, .unset] [])) t
    refine XS.iload X37.here hx rfl (hb hby at_207) rfl ?_
    show Steps p.tables e below (T37.setTop (mkF m 209 #[.val (.long q0), .second, .val (.int p1), .val (.int p2), .val (.int p3), .val (.int p4), .val (.ref b2), .val (.int v73), .val (.int v86), .val (.int v93), .val (.int v102), .val (.int v114), .val (.int v126), .val (.int v138), .val (.int v150), .val (.int v162), .val (.int v174), .val (.int (0 : Int32)), .val (.int v184), .val (.int v191), .val (.int v198), .val (.int v205), .unset, .unset] [(.int v205)])) t
    refine XS.iload X37.here hx rfl (hb hby at_209) rfl ?_
    show Steps p.tables e below (T37.setTop (mkF m 211 #[.val (.long q0), .second, .val (.int p1), .val (.int p2), .val (.int p3), .val (.int p4), .val (.ref b2), .val (.int v73), .val (.int v86), .val (.int v93), .val (.int v102), .val (.int v114), .val (.int v126), .val (.int v138), .val (.int v150), .val (.int v162), .val (.int v174), .val (.int (0 : Int32)), .val (.int v184), .val (.int v191), .val (.int v198), .val (.int v205), .unset, .unset] [(.int v162), (.int v205)])) t
    refine XS.iadd X37.here hx rfl (hb hby at_211) rfl ?_
    show Steps p.tables e below (T37.setTop (mkF m 212 #[.val (.long q0), .second, .val (.int p1), .val (.int p2), .val (.int p3), .val (.int p4), .val (.ref b2), .val (.int v73), .val (.int v86), .val (.int v93), .val (.int v102), .val (.int v114), .val (.int v126), .val (.int v138), .val (.int v150), .val (.int v162), .val (.int v174), .val (.int (0 : Int32)), .val (.int v184), .val (.int v191), .val (.int v198), .val (.int v205), .unset, .unset] [(.int (v205 + v162))])) t
    refine XS.istore X37.here hx rfl (hb hby at_212) rfl (l' := #[.val (.long q0), .second, .val (.int p1), .val (.int p2), .val (.int p3), .val (.int p4), .val (.ref b2), .val (.int v73), .val (.int v86), .val (.int v93), .val (.int v102), .val (.int v114), .val (.int v126), .val (.int v138), .val (.int v150), .val (.int v162), .val (.int v174), .val (.int (0 : Int32)), .val (.int v184), .val (.int v191), .val (.int v198), .val (.int v205), .val (.int (v205 + v162)), .unset]) rfl ?_
    exact kt
  obtain ⟨v212, hv212, K49⟩ : ∃ v212 : Int32, v212 = (v205 + v162) ∧ ∀ t, Steps p.tables e below (T37.setTop (mkF m 214 #[.val (.long q0), .second, .val (.int p1), .val (.int p2), .val (.int p3), .val (.int p4), .val (.ref b2), .val (.int v73), .val (.int v86), .val (.int v93), .val (.int v102), .val (.int v114), .val (.int v126), .val (.int v138), .val (.int v150), .val (.int v162), .val (.int v174), .val (.int (0 : Int32)), .val (.int v184), .val (.int v191), .val (.int v198), .val (.int v205), .val (.int v212), .unset] [])) t → P0 t := ⟨_, rfl, K48⟩
  have K50 : ∀ t, Steps p.tables e below (T37.setTop (mkF m 217 #[.val (.long q0), .second, .val (.int p1), .val (.int p2), .val (.int p3), .val (.int p4), .val (.ref b2), .val (.int v73), .val (.int v86), .val (.int v93), .val (.int v102), .val (.int v114), .val (.int v126), .val (.int v138), .val (.int v150), .val (.int v162), .val (.int v174), .val (.int (0 : Int32)), .val (.int v184), .val (.int v191), .val (.int v198), .val (.int v205), .val (.int v212), .unset] [(.int (1 : Int32)), (.int v102)])) t → P0 t := by
    intro t kt
    refine K49 t ?_
    show Steps p.tables e below (T37.setTop (mkF m 214 #[.val (.long q0), .second, .val (.int p1), .val (.int p2), .val (.int p3), .val (.int p4), .val (.ref b2), .val (.int v73), .val (.int v86), .val (.int v93), .val (.int v102), .val (.int v114), .val (.int v126), .val (.int v138), .val (.int v150), .val (.int v162), .val (.int v174), .val (.int (0 : Int32)), .val (.int v184), .val (.int v191), .val (.int v198), .val (.int v205), .val (.int v212), .unset] [])) t
    refine XS.iload X37.here hx rfl (hb hby at_214) rfl ?_
    show Steps p.tables e below (T37.setTop (mkF m 216 #[.val (.long q0), .second, .val (.int p1), .val (.int p2), .val (.int p3), .val (.int p4), .val (.ref b2), .val (.int v73), .val (.int v86), .val (.int v93), .val (.int v102), .val (.int v114), .val (.int v126), .val (.int v138), .val (.int v150), .val (.int v162), .val (.int v174), .val (.int (0 : Int32)), .val (.int v184), .val (.int v191), .val (.int v198), .val (.int v205), .val (.int v212), .unset] [(.int v102)])) t
    refine XS.iconst X37.here hx rfl (hb hby at_216) ?_
    exact kt
  obtain ⟨j226_s0, hj226_s0, K53⟩ : ∃ (j226_s0 : Int32), j226_s0 = (if v102 = (1 : Int32) then v73 else (-1 : Int32)) ∧ ∀ t, Steps p.tables e below (T37.setTop (mkF m 226 #[.val (.long q0), .second, .val (.int p1), .val (.int p2), .val (.int p3), .val (.int p4), .val (.ref b2), .val (.int v73), .val (.int v86), .val (.int v93), .val (.int v102), .val (.int v114), .val (.int v126), .val (.int v138), .val (.int v150), .val (.int v162), .val (.int v174), .val (.int (0 : Int32)), .val (.int v184), .val (.int v191), .val (.int v198), .val (.int v205), .val (.int v212), .unset] [(.int j226_s0)])) t → P0 t := by
    by_cases hc217 : v102 = (1 : Int32)
    · have K51 : ∀ t, Steps p.tables e below (T37.setTop (mkF m 226 #[.val (.long q0), .second, .val (.int p1), .val (.int p2), .val (.int p3), .val (.int p4), .val (.ref b2), .val (.int v73), .val (.int v86), .val (.int v93), .val (.int v102), .val (.int v114), .val (.int v126), .val (.int v138), .val (.int v150), .val (.int v162), .val (.int v174), .val (.int (0 : Int32)), .val (.int v184), .val (.int v191), .val (.int v198), .val (.int v205), .val (.int v212), .unset] [(.int v73)])) t → P0 t := by
        intro t kt
        refine K50 t ?_
        show Steps p.tables e below (T37.setTop (mkF m 217 #[.val (.long q0), .second, .val (.int p1), .val (.int p2), .val (.int p3), .val (.int p4), .val (.ref b2), .val (.int v73), .val (.int v86), .val (.int v93), .val (.int v102), .val (.int v114), .val (.int v126), .val (.int v138), .val (.int v150), .val (.int v162), .val (.int v174), .val (.int (0 : Int32)), .val (.int v184), .val (.int v191), .val (.int v198), .val (.int v205), .val (.int v212), .unset] [(.int (1 : Int32)), (.int v102)])) t
        refine XS.icmpNo X37.here hx rfl (hb hby at_217) rfl (teq hc217).2 ?_
        show Steps p.tables e below (T37.setTop (mkF m 220 #[.val (.long q0), .second, .val (.int p1), .val (.int p2), .val (.int p3), .val (.int p4), .val (.ref b2), .val (.int v73), .val (.int v86), .val (.int v93), .val (.int v102), .val (.int v114), .val (.int v126), .val (.int v138), .val (.int v150), .val (.int v162), .val (.int v174), .val (.int (0 : Int32)), .val (.int v184), .val (.int v191), .val (.int v198), .val (.int v205), .val (.int v212), .unset] [])) t
        refine XS.iload X37.here hx rfl (hb hby at_220) rfl ?_
        show Steps p.tables e below (T37.setTop (mkF m 222 #[.val (.long q0), .second, .val (.int p1), .val (.int p2), .val (.int p3), .val (.int p4), .val (.ref b2), .val (.int v73), .val (.int v86), .val (.int v93), .val (.int v102), .val (.int v114), .val (.int v126), .val (.int v138), .val (.int v150), .val (.int v162), .val (.int v174), .val (.int (0 : Int32)), .val (.int v184), .val (.int v191), .val (.int v198), .val (.int v205), .val (.int v212), .unset] [(.int v73)])) t
        refine XS.goto X37.here hx rfl (pc0 := 222) (pc' := 226) rfl (hb hby at_222) (by decide) (by decide) ?_
        exact kt
      exact ⟨_, (if_pos hc217).symm, K51⟩
    · have K52 : ∀ t, Steps p.tables e below (T37.setTop (mkF m 226 #[.val (.long q0), .second, .val (.int p1), .val (.int p2), .val (.int p3), .val (.int p4), .val (.ref b2), .val (.int v73), .val (.int v86), .val (.int v93), .val (.int v102), .val (.int v114), .val (.int v126), .val (.int v138), .val (.int v150), .val (.int v162), .val (.int v174), .val (.int (0 : Int32)), .val (.int v184), .val (.int v191), .val (.int v198), .val (.int v205), .val (.int v212), .unset] [(.int (-1 : Int32))])) t → P0 t := by
        intro t kt
        refine K50 t ?_
        show Steps p.tables e below (T37.setTop (mkF m 217 #[.val (.long q0), .second, .val (.int p1), .val (.int p2), .val (.int p3), .val (.int p4), .val (.ref b2), .val (.int v73), .val (.int v86), .val (.int v93), .val (.int v102), .val (.int v114), .val (.int v126), .val (.int v138), .val (.int v150), .val (.int v162), .val (.int v174), .val (.int (0 : Int32)), .val (.int v184), .val (.int v191), .val (.int v198), .val (.int v205), .val (.int v212), .unset] [(.int (1 : Int32)), (.int v102)])) t
        refine XS.icmpYes X37.here hx rfl (pc0 := 217) (pc' := 225) rfl (hb hby at_217) rfl (feq hc217).2 (by decide) (by decide) ?_
        show Steps p.tables e below (T37.setTop (mkF m 225 #[.val (.long q0), .second, .val (.int p1), .val (.int p2), .val (.int p3), .val (.int p4), .val (.ref b2), .val (.int v73), .val (.int v86), .val (.int v93), .val (.int v102), .val (.int v114), .val (.int v126), .val (.int v138), .val (.int v150), .val (.int v162), .val (.int v174), .val (.int (0 : Int32)), .val (.int v184), .val (.int v191), .val (.int v198), .val (.int v205), .val (.int v212), .unset] [])) t
        refine XS.iconst X37.here hx rfl (hb hby at_225) ?_
        exact kt
      exact ⟨_, (if_neg hc217).symm, K52⟩
  obtain ⟨_, _, ⟨T54, L54, k54, n54⟩, -, X54, ⟨Lc54, hQ54, l54, y54, z54⟩, st54⟩ := Jvm.LawKit.callS X37 hx (y := (⟨"com/example/lowtide/lowtide/ColumnsStartPinLaw", "pick", "(IIIII)I"⟩ : MethodName)) hown (mvT hZ (hw _ (List.mem_of_getElem? (i := 9) rfl))) (mvT hZ (hw _ (List.mem_of_getElem? (i := 10) rfl))) (mvT hZ (hw _ (List.mem_of_getElem? (i := 3) rfl))) (mvT hZ (hw _ (List.mem_of_getElem? (i := 11) rfl))) (by decide) (backOf (W := 0) (rm_pck l Z a0 hw [] j226_s0 v114 (0 : Int32) v102 (0 : Int32) h13 n0 Z13 ) hZ (hw _ (List.mem_of_getElem? (i := 11) rfl)) (hw _ (List.mem_of_getElem? (i := 3) rfl)) (by decide) (by decide)) (g := (mkF m 237 #[.val (.long q0), .second, .val (.int p1), .val (.int p2), .val (.int p3), .val (.int p4), .val (.ref b2), .val (.int v73), .val (.int v86), .val (.int v93), .val (.int v102), .val (.int v114), .val (.int v126), .val (.int v138), .val (.int v150), .val (.int v162), .val (.int v174), .val (.int (0 : Int32)), .val (.int v184), .val (.int v191), .val (.int v198), .val (.int v205), .val (.int v212), .val (.int j226_s0)] [(.int (0 : Int32)), (.int v102), (.int (0 : Int32)), (.int v114), (.int j226_s0)])) rfl (by rw [hml]; rfl) (argsL := [(.int j226_s0), (.int v114), (.int (0 : Int32)), (.int v102), (.int (0 : Int32))]) (rest := []) (lenOf law_pd2 rfl) rfl (by show 2 * 0 + _ ≤ _; exact Nat.le_of_eq rfl) (hb hby at_237) (fun _ _ => ⟨rfl, e37, (by decide : 1 + 0 ≤ _), (by decide : 6 + 0 ≤ _)⟩)
  dsimp only [Pt.U, Pt.locs, Pt.cells, Pt.slots] at X54 l54 y54 z54 st54 hQ54
  rw [l54, y54, z54] at X54
  obtain ⟨rfl, N54q, e54⟩ := hQ54
  have N54 := Fr.app N37 N54q
  have K55 : ∀ t, Steps p.tables e below (T54.setTop (mkF m 242 #[.val (.long q0), .second, .val (.int p1), .val (.int p2), .val (.int p3), .val (.int p4), .val (.ref b2), .val (.int v73), .val (.int v86), .val (.int v93), .val (.int v102), .val (.int v114), .val (.int v126), .val (.int v138), .val (.int v150), .val (.int v162), .val (.int v174), .val (.int (0 : Int32)), .val (.int v184), .val (.int v191), .val (.int v198), .val (.int v205), .val (.int v212), .val (.int (fPk j226_s0 v114 (0 : Int32) v102 (0 : Int32)))] [])) t → P0 t := by
    intro t kt
    refine K53 t ?_
    show Steps p.tables e below (T37.setTop (mkF m 226 #[.val (.long q0), .second, .val (.int p1), .val (.int p2), .val (.int p3), .val (.int p4), .val (.ref b2), .val (.int v73), .val (.int v86), .val (.int v93), .val (.int v102), .val (.int v114), .val (.int v126), .val (.int v138), .val (.int v150), .val (.int v162), .val (.int v174), .val (.int (0 : Int32)), .val (.int v184), .val (.int v191), .val (.int v198), .val (.int v205), .val (.int v212), .unset] [(.int j226_s0)])) t
    refine XS.istore X37.here hx rfl (hb hby at_226) rfl (l' := #[.val (.long q0), .second, .val (.int p1), .val (.int p2), .val (.int p3), .val (.int p4), .val (.ref b2), .val (.int v73), .val (.int v86), .val (.int v93), .val (.int v102), .val (.int v114), .val (.int v126), .val (.int v138), .val (.int v150), .val (.int v162), .val (.int v174), .val (.int (0 : Int32)), .val (.int v184), .val (.int v191), .val (.int v198), .val (.int v205), .val (.int v212), .val (.int j226_s0)]) rfl ?_
    show Steps p.tables e below (T37.setTop (mkF m 228 #[.val (.long q0), .second, .val (.int p1), .val (.int p2), .val (.int p3), .val (.int p4), .val (.ref b2), .val (.int v73), .val (.int v86), .val (.int v93), .val (.int v102), .val (.int v114), .val (.int v126), .val (.int v138), .val (.int v150), .val (.int v162), .val (.int v174), .val (.int (0 : Int32)), .val (.int v184), .val (.int v191), .val (.int v198), .val (.int v205), .val (.int v212), .val (.int j226_s0)] [])) t
    refine XS.iload X37.here hx rfl (hb hby at_228) rfl ?_
    show Steps p.tables e below (T37.setTop (mkF m 230 #[.val (.long q0), .second, .val (.int p1), .val (.int p2), .val (.int p3), .val (.int p4), .val (.ref b2), .val (.int v73), .val (.int v86), .val (.int v93), .val (.int v102), .val (.int v114), .val (.int v126), .val (.int v138), .val (.int v150), .val (.int v162), .val (.int v174), .val (.int (0 : Int32)), .val (.int v184), .val (.int v191), .val (.int v198), .val (.int v205), .val (.int v212), .val (.int j226_s0)] [(.int j226_s0)])) t
    refine XS.iload X37.here hx rfl (hb hby at_230) rfl ?_
    show Steps p.tables e below (T37.setTop (mkF m 232 #[.val (.long q0), .second, .val (.int p1), .val (.int p2), .val (.int p3), .val (.int p4), .val (.ref b2), .val (.int v73), .val (.int v86), .val (.int v93), .val (.int v102), .val (.int v114), .val (.int v126), .val (.int v138), .val (.int v150), .val (.int v162), .val (.int v174), .val (.int (0 : Int32)), .val (.int v184), .val (.int v191), .val (.int v198), .val (.int v205), .val (.int v212), .val (.int j226_s0)] [(.int v114), (.int j226_s0)])) t
    refine XS.iload X37.here hx rfl (hb hby at_232) rfl ?_
    show Steps p.tables e below (T37.setTop (mkF m 234 #[.val (.long q0), .second, .val (.int p1), .val (.int p2), .val (.int p3), .val (.int p4), .val (.ref b2), .val (.int v73), .val (.int v86), .val (.int v93), .val (.int v102), .val (.int v114), .val (.int v126), .val (.int v138), .val (.int v150), .val (.int v162), .val (.int v174), .val (.int (0 : Int32)), .val (.int v184), .val (.int v191), .val (.int v198), .val (.int v205), .val (.int v212), .val (.int j226_s0)] [(.int (0 : Int32)), (.int v114), (.int j226_s0)])) t
    refine XS.iload X37.here hx rfl (hb hby at_234) rfl ?_
    show Steps p.tables e below (T37.setTop (mkF m 236 #[.val (.long q0), .second, .val (.int p1), .val (.int p2), .val (.int p3), .val (.int p4), .val (.ref b2), .val (.int v73), .val (.int v86), .val (.int v93), .val (.int v102), .val (.int v114), .val (.int v126), .val (.int v138), .val (.int v150), .val (.int v162), .val (.int v174), .val (.int (0 : Int32)), .val (.int v184), .val (.int v191), .val (.int v198), .val (.int v205), .val (.int v212), .val (.int j226_s0)] [(.int v102), (.int (0 : Int32)), (.int v114), (.int j226_s0)])) t
    refine XS.iconst X37.here hx rfl (hb hby at_236) ?_
    show Steps p.tables e below (T37.setTop (mkF m 237 #[.val (.long q0), .second, .val (.int p1), .val (.int p2), .val (.int p3), .val (.int p4), .val (.ref b2), .val (.int v73), .val (.int v86), .val (.int v93), .val (.int v102), .val (.int v114), .val (.int v126), .val (.int v138), .val (.int v150), .val (.int v162), .val (.int v174), .val (.int (0 : Int32)), .val (.int v184), .val (.int v191), .val (.int v198), .val (.int v205), .val (.int v212), .val (.int j226_s0)] [(.int (0 : Int32)), (.int v102), (.int (0 : Int32)), (.int v114), (.int j226_s0)])) t
    refine st54 _ ?_
    show Steps p.tables e below (T54.setTop (mkF m 240 #[.val (.long q0), .second, .val (.int p1), .val (.int p2), .val (.int p3), .val (.int p4), .val (.ref b2), .val (.int v73), .val (.int v86), .val (.int v93), .val (.int v102), .val (.int v114), .val (.int v126), .val (.int v138), .val (.int v150), .val (.int v162), .val (.int v174), .val (.int (0 : Int32)), .val (.int v184), .val (.int v191), .val (.int v198), .val (.int v205), .val (.int v212), .val (.int j226_s0)] [(.int (fPk j226_s0 v114 (0 : Int32) v102 (0 : Int32)))])) t
    refine XS.istore X54.here hx rfl (hb hby at_240) rfl (l' := #[.val (.long q0), .second, .val (.int p1), .val (.int p2), .val (.int p3), .val (.int p4), .val (.ref b2), .val (.int v73), .val (.int v86), .val (.int v93), .val (.int v102), .val (.int v114), .val (.int v126), .val (.int v138), .val (.int v150), .val (.int v162), .val (.int v174), .val (.int (0 : Int32)), .val (.int v184), .val (.int v191), .val (.int v198), .val (.int v205), .val (.int v212), .val (.int (fPk j226_s0 v114 (0 : Int32) v102 (0 : Int32)))]) rfl ?_
    exact kt
  obtain ⟨v240, hv240, K56⟩ : ∃ v240 : Int32, v240 = (fPk j226_s0 v114 (0 : Int32) v102 (0 : Int32)) ∧ ∀ t, Steps p.tables e below (T54.setTop (mkF m 242 #[.val (.long q0), .second, .val (.int p1), .val (.int p2), .val (.int p3), .val (.int p4), .val (.ref b2), .val (.int v73), .val (.int v86), .val (.int v93), .val (.int v102), .val (.int v114), .val (.int v126), .val (.int v138), .val (.int v150), .val (.int v162), .val (.int v174), .val (.int (0 : Int32)), .val (.int v184), .val (.int v191), .val (.int v198), .val (.int v205), .val (.int v212), .val (.int v240)] [])) t → P0 t := ⟨_, rfl, K55⟩
  obtain ⟨_, _, ⟨T57, L57, k57, n57⟩, -, X57, ⟨Lc57, hQ57, l57, y57, z57⟩, st57⟩ := Jvm.LawKit.callS X54 hx (y := (⟨"com/example/lowtide/lowtide/ColumnsStartPinLaw", "pick", "(IIIII)I"⟩ : MethodName)) hown (mvT hZ (hw _ (List.mem_of_getElem? (i := 9) rfl))) (mvT hZ (hw _ (List.mem_of_getElem? (i := 10) rfl))) (mvT hZ (hw _ (List.mem_of_getElem? (i := 3) rfl))) (mvT hZ (hw _ (List.mem_of_getElem? (i := 11) rfl))) (by decide) (backOf (W := 0) (rm_pck l Z a0 hw [] v240 v126 v184 v102 (1 : Int32) h13 n0 Z13 ) hZ (hw _ (List.mem_of_getElem? (i := 11) rfl)) (hw _ (List.mem_of_getElem? (i := 3) rfl)) (by decide) (by decide)) (g := (mkF m 251 #[.val (.long q0), .second, .val (.int p1), .val (.int p2), .val (.int p3), .val (.int p4), .val (.ref b2), .val (.int v73), .val (.int v86), .val (.int v93), .val (.int v102), .val (.int v114), .val (.int v126), .val (.int v138), .val (.int v150), .val (.int v162), .val (.int v174), .val (.int (0 : Int32)), .val (.int v184), .val (.int v191), .val (.int v198), .val (.int v205), .val (.int v212), .val (.int v240)] [(.int (1 : Int32)), (.int v102), (.int v184), (.int v126), (.int v240)])) rfl (by rw [hml]; rfl) (argsL := [(.int v240), (.int v126), (.int v184), (.int v102), (.int (1 : Int32))]) (rest := []) (lenOf law_pd2 rfl) rfl (by show 2 * 0 + _ ≤ _; exact Nat.le_of_eq rfl) (hb hby at_251) (fun _ _ => ⟨rfl, e54, (by decide : 1 + 0 ≤ _), (by decide : 6 + 0 ≤ _)⟩)
  dsimp only [Pt.U, Pt.locs, Pt.cells, Pt.slots] at X57 l57 y57 z57 st57 hQ57
  rw [l57, y57, z57] at X57
  obtain ⟨rfl, N57q, e57⟩ := hQ57
  have N57 := Fr.app N54 N57q
  have K58 : ∀ t, Steps p.tables e below (T57.setTop (mkF m 256 #[.val (.long q0), .second, .val (.int p1), .val (.int p2), .val (.int p3), .val (.int p4), .val (.ref b2), .val (.int v73), .val (.int v86), .val (.int v93), .val (.int v102), .val (.int v114), .val (.int v126), .val (.int v138), .val (.int v150), .val (.int v162), .val (.int v174), .val (.int (0 : Int32)), .val (.int v184), .val (.int v191), .val (.int v198), .val (.int v205), .val (.int v212), .val (.int (fPk v240 v126 v184 v102 (1 : Int32)))] [])) t → P0 t := by
    intro t kt
    refine K56 t ?_
    show Steps p.tables e below (T54.setTop (mkF m 242 #[.val (.long q0), .second, .val (.int p1), .val (.int p2), .val (.int p3), .val (.int p4), .val (.ref b2), .val (.int v73), .val (.int v86), .val (.int v93), .val (.int v102), .val (.int v114), .val (.int v126), .val (.int v138), .val (.int v150), .val (.int v162), .val (.int v174), .val (.int (0 : Int32)), .val (.int v184), .val (.int v191), .val (.int v198), .val (.int v205), .val (.int v212), .val (.int v240)] [])) t
    refine XS.iload X54.here hx rfl (hb hby at_242) rfl ?_
    show Steps p.tables e below (T54.setTop (mkF m 244 #[.val (.long q0), .second, .val (.int p1), .val (.int p2), .val (.int p3), .val (.int p4), .val (.ref b2), .val (.int v73), .val (.int v86), .val (.int v93), .val (.int v102), .val (.int v114), .val (.int v126), .val (.int v138), .val (.int v150), .val (.int v162), .val (.int v174), .val (.int (0 : Int32)), .val (.int v184), .val (.int v191), .val (.int v198), .val (.int v205), .val (.int v212), .val (.int v240)] [(.int v240)])) t
    refine XS.iload X54.here hx rfl (hb hby at_244) rfl ?_
    show Steps p.tables e below (T54.setTop (mkF m 246 #[.val (.long q0), .second, .val (.int p1), .val (.int p2), .val (.int p3), .val (.int p4), .val (.ref b2), .val (.int v73), .val (.int v86), .val (.int v93), .val (.int v102), .val (.int v114), .val (.int v126), .val (.int v138), .val (.int v150), .val (.int v162), .val (.int v174), .val (.int (0 : Int32)), .val (.int v184), .val (.int v191), .val (.int v198), .val (.int v205), .val (.int v212), .val (.int v240)] [(.int v126), (.int v240)])) t
    refine XS.iload X54.here hx rfl (hb hby at_246) rfl ?_
    show Steps p.tables e below (T54.setTop (mkF m 248 #[.val (.long q0), .second, .val (.int p1), .val (.int p2), .val (.int p3), .val (.int p4), .val (.ref b2), .val (.int v73), .val (.int v86), .val (.int v93), .val (.int v102), .val (.int v114), .val (.int v126), .val (.int v138), .val (.int v150), .val (.int v162), .val (.int v174), .val (.int (0 : Int32)), .val (.int v184), .val (.int v191), .val (.int v198), .val (.int v205), .val (.int v212), .val (.int v240)] [(.int v184), (.int v126), (.int v240)])) t
    refine XS.iload X54.here hx rfl (hb hby at_248) rfl ?_
    show Steps p.tables e below (T54.setTop (mkF m 250 #[.val (.long q0), .second, .val (.int p1), .val (.int p2), .val (.int p3), .val (.int p4), .val (.ref b2), .val (.int v73), .val (.int v86), .val (.int v93), .val (.int v102), .val (.int v114), .val (.int v126), .val (.int v138), .val (.int v150), .val (.int v162), .val (.int v174), .val (.int (0 : Int32)), .val (.int v184), .val (.int v191), .val (.int v198), .val (.int v205), .val (.int v212), .val (.int v240)] [(.int v102), (.int v184), (.int v126), (.int v240)])) t
    refine XS.iconst X54.here hx rfl (hb hby at_250) ?_
    show Steps p.tables e below (T54.setTop (mkF m 251 #[.val (.long q0), .second, .val (.int p1), .val (.int p2), .val (.int p3), .val (.int p4), .val (.ref b2), .val (.int v73), .val (.int v86), .val (.int v93), .val (.int v102), .val (.int v114), .val (.int v126), .val (.int v138), .val (.int v150), .val (.int v162), .val (.int v174), .val (.int (0 : Int32)), .val (.int v184), .val (.int v191), .val (.int v198), .val (.int v205), .val (.int v212), .val (.int v240)] [(.int (1 : Int32)), (.int v102), (.int v184), (.int v126), (.int v240)])) t
    refine st57 _ ?_
    show Steps p.tables e below (T57.setTop (mkF m 254 #[.val (.long q0), .second, .val (.int p1), .val (.int p2), .val (.int p3), .val (.int p4), .val (.ref b2), .val (.int v73), .val (.int v86), .val (.int v93), .val (.int v102), .val (.int v114), .val (.int v126), .val (.int v138), .val (.int v150), .val (.int v162), .val (.int v174), .val (.int (0 : Int32)), .val (.int v184), .val (.int v191), .val (.int v198), .val (.int v205), .val (.int v212), .val (.int v240)] [(.int (fPk v240 v126 v184 v102 (1 : Int32)))])) t
    refine XS.istore X57.here hx rfl (hb hby at_254) rfl (l' := #[.val (.long q0), .second, .val (.int p1), .val (.int p2), .val (.int p3), .val (.int p4), .val (.ref b2), .val (.int v73), .val (.int v86), .val (.int v93), .val (.int v102), .val (.int v114), .val (.int v126), .val (.int v138), .val (.int v150), .val (.int v162), .val (.int v174), .val (.int (0 : Int32)), .val (.int v184), .val (.int v191), .val (.int v198), .val (.int v205), .val (.int v212), .val (.int (fPk v240 v126 v184 v102 (1 : Int32)))]) rfl ?_
    exact kt
  obtain ⟨v254, hv254, K59⟩ : ∃ v254 : Int32, v254 = (fPk v240 v126 v184 v102 (1 : Int32)) ∧ ∀ t, Steps p.tables e below (T57.setTop (mkF m 256 #[.val (.long q0), .second, .val (.int p1), .val (.int p2), .val (.int p3), .val (.int p4), .val (.ref b2), .val (.int v73), .val (.int v86), .val (.int v93), .val (.int v102), .val (.int v114), .val (.int v126), .val (.int v138), .val (.int v150), .val (.int v162), .val (.int v174), .val (.int (0 : Int32)), .val (.int v184), .val (.int v191), .val (.int v198), .val (.int v205), .val (.int v212), .val (.int v254)] [])) t → P0 t := ⟨_, rfl, K58⟩
  obtain ⟨_, _, ⟨T60, L60, k60, n60⟩, -, X60, ⟨Lc60, hQ60, l60, y60, z60⟩, st60⟩ := Jvm.LawKit.callS X57 hx (y := (⟨"com/example/lowtide/lowtide/ColumnsStartPinLaw", "pick", "(IIIII)I"⟩ : MethodName)) hown (mvT hZ (hw _ (List.mem_of_getElem? (i := 9) rfl))) (mvT hZ (hw _ (List.mem_of_getElem? (i := 10) rfl))) (mvT hZ (hw _ (List.mem_of_getElem? (i := 3) rfl))) (mvT hZ (hw _ (List.mem_of_getElem? (i := 11) rfl))) (by decide) (backOf (W := 0) (rm_pck l Z a0 hw [] v254 v138 v191 v102 (2 : Int32) h13 n0 Z13 ) hZ (hw _ (List.mem_of_getElem? (i := 11) rfl)) (hw _ (List.mem_of_getElem? (i := 3) rfl)) (by decide) (by decide)) (g := (mkF m 265 #[.val (.long q0), .second, .val (.int p1), .val (.int p2), .val (.int p3), .val (.int p4), .val (.ref b2), .val (.int v73), .val (.int v86), .val (.int v93), .val (.int v102), .val (.int v114), .val (.int v126), .val (.int v138), .val (.int v150), .val (.int v162), .val (.int v174), .val (.int (0 : Int32)), .val (.int v184), .val (.int v191), .val (.int v198), .val (.int v205), .val (.int v212), .val (.int v254)] [(.int (2 : Int32)), (.int v102), (.int v191), (.int v138), (.int v254)])) rfl (by rw [hml]; rfl) (argsL := [(.int v254), (.int v138), (.int v191), (.int v102), (.int (2 : Int32))]) (rest := []) (lenOf law_pd2 rfl) rfl (by show 2 * 0 + _ ≤ _; exact Nat.le_of_eq rfl) (hb hby at_265) (fun _ _ => ⟨rfl, e57, (by decide : 1 + 0 ≤ _), (by decide : 6 + 0 ≤ _)⟩)
  dsimp only [Pt.U, Pt.locs, Pt.cells, Pt.slots] at X60 l60 y60 z60 st60 hQ60
  rw [l60, y60, z60] at X60
  obtain ⟨rfl, N60q, e60⟩ := hQ60
  have N60 := Fr.app N57 N60q
  have K61 : ∀ t, Steps p.tables e below (T60.setTop (mkF m 270 #[.val (.long q0), .second, .val (.int p1), .val (.int p2), .val (.int p3), .val (.int p4), .val (.ref b2), .val (.int v73), .val (.int v86), .val (.int v93), .val (.int v102), .val (.int v114), .val (.int v126), .val (.int v138), .val (.int v150), .val (.int v162), .val (.int v174), .val (.int (0 : Int32)), .val (.int v184), .val (.int v191), .val (.int v198), .val (.int v205), .val (.int v212), .val (.int (fPk v254 v138 v191 v102 (2 : Int32)))] [])) t → P0 t := by
    intro t kt
    refine K59 t ?_
    show Steps p.tables e below (T57.setTop (mkF m 256 #[.val (.long q0), .second, .val (.int p1), .val (.int p2), .val (.int p3), .val (.int p4), .val (.ref b2), .val (.int v73), .val (.int v86), .val (.int v93), .val (.int v102), .val (.int v114), .val (.int v126), .val (.int v138), .val (.int v150), .val (.int v162), .val (.int v174), .val (.int (0 : Int32)), .val (.int v184), .val (.int v191), .val (.int v198), .val (.int v205), .val (.int v212), .val (.int v254)] [])) t
    refine XS.iload X57.here hx rfl (hb hby at_256) rfl ?_
    show Steps p.tables e below (T57.setTop (mkF m 258 #[.val (.long q0), .second, .val (.int p1), .val (.int p2), .val (.int p3), .val (.int p4), .val (.ref b2), .val (.int v73), .val (.int v86), .val (.int v93), .val (.int v102), .val (.int v114), .val (.int v126), .val (.int v138), .val (.int v150), .val (.int v162), .val (.int v174), .val (.int (0 : Int32)), .val (.int v184), .val (.int v191), .val (.int v198), .val (.int v205), .val (.int v212), .val (.int v254)] [(.int v254)])) t
    refine XS.iload X57.here hx rfl (hb hby at_258) rfl ?_
    show Steps p.tables e below (T57.setTop (mkF m 260 #[.val (.long q0), .second, .val (.int p1), .val (.int p2), .val (.int p3), .val (.int p4), .val (.ref b2), .val (.int v73), .val (.int v86), .val (.int v93), .val (.int v102), .val (.int v114), .val (.int v126), .val (.int v138), .val (.int v150), .val (.int v162), .val (.int v174), .val (.int (0 : Int32)), .val (.int v184), .val (.int v191), .val (.int v198), .val (.int v205), .val (.int v212), .val (.int v254)] [(.int v138), (.int v254)])) t
    refine XS.iload X57.here hx rfl (hb hby at_260) rfl ?_
    show Steps p.tables e below (T57.setTop (mkF m 262 #[.val (.long q0), .second, .val (.int p1), .val (.int p2), .val (.int p3), .val (.int p4), .val (.ref b2), .val (.int v73), .val (.int v86), .val (.int v93), .val (.int v102), .val (.int v114), .val (.int v126), .val (.int v138), .val (.int v150), .val (.int v162), .val (.int v174), .val (.int (0 : Int32)), .val (.int v184), .val (.int v191), .val (.int v198), .val (.int v205), .val (.int v212), .val (.int v254)] [(.int v191), (.int v138), (.int v254)])) t
    refine XS.iload X57.here hx rfl (hb hby at_262) rfl ?_
    show Steps p.tables e below (T57.setTop (mkF m 264 #[.val (.long q0), .second, .val (.int p1), .val (.int p2), .val (.int p3), .val (.int p4), .val (.ref b2), .val (.int v73), .val (.int v86), .val (.int v93), .val (.int v102), .val (.int v114), .val (.int v126), .val (.int v138), .val (.int v150), .val (.int v162), .val (.int v174), .val (.int (0 : Int32)), .val (.int v184), .val (.int v191), .val (.int v198), .val (.int v205), .val (.int v212), .val (.int v254)] [(.int v102), (.int v191), (.int v138), (.int v254)])) t
    refine XS.iconst X57.here hx rfl (hb hby at_264) ?_
    show Steps p.tables e below (T57.setTop (mkF m 265 #[.val (.long q0), .second, .val (.int p1), .val (.int p2), .val (.int p3), .val (.int p4), .val (.ref b2), .val (.int v73), .val (.int v86), .val (.int v93), .val (.int v102), .val (.int v114), .val (.int v126), .val (.int v138), .val (.int v150), .val (.int v162), .val (.int v174), .val (.int (0 : Int32)), .val (.int v184), .val (.int v191), .val (.int v198), .val (.int v205), .val (.int v212), .val (.int v254)] [(.int (2 : Int32)), (.int v102), (.int v191), (.int v138), (.int v254)])) t
    refine st60 _ ?_
    show Steps p.tables e below (T60.setTop (mkF m 268 #[.val (.long q0), .second, .val (.int p1), .val (.int p2), .val (.int p3), .val (.int p4), .val (.ref b2), .val (.int v73), .val (.int v86), .val (.int v93), .val (.int v102), .val (.int v114), .val (.int v126), .val (.int v138), .val (.int v150), .val (.int v162), .val (.int v174), .val (.int (0 : Int32)), .val (.int v184), .val (.int v191), .val (.int v198), .val (.int v205), .val (.int v212), .val (.int v254)] [(.int (fPk v254 v138 v191 v102 (2 : Int32)))])) t
    refine XS.istore X60.here hx rfl (hb hby at_268) rfl (l' := #[.val (.long q0), .second, .val (.int p1), .val (.int p2), .val (.int p3), .val (.int p4), .val (.ref b2), .val (.int v73), .val (.int v86), .val (.int v93), .val (.int v102), .val (.int v114), .val (.int v126), .val (.int v138), .val (.int v150), .val (.int v162), .val (.int v174), .val (.int (0 : Int32)), .val (.int v184), .val (.int v191), .val (.int v198), .val (.int v205), .val (.int v212), .val (.int (fPk v254 v138 v191 v102 (2 : Int32)))]) rfl ?_
    exact kt
  obtain ⟨v268, hv268, K62⟩ : ∃ v268 : Int32, v268 = (fPk v254 v138 v191 v102 (2 : Int32)) ∧ ∀ t, Steps p.tables e below (T60.setTop (mkF m 270 #[.val (.long q0), .second, .val (.int p1), .val (.int p2), .val (.int p3), .val (.int p4), .val (.ref b2), .val (.int v73), .val (.int v86), .val (.int v93), .val (.int v102), .val (.int v114), .val (.int v126), .val (.int v138), .val (.int v150), .val (.int v162), .val (.int v174), .val (.int (0 : Int32)), .val (.int v184), .val (.int v191), .val (.int v198), .val (.int v205), .val (.int v212), .val (.int v268)] [])) t → P0 t := ⟨_, rfl, K61⟩
  obtain ⟨_, _, ⟨T63, L63, k63, n63⟩, -, X63, ⟨Lc63, hQ63, l63, y63, z63⟩, st63⟩ := Jvm.LawKit.callS X60 hx (y := (⟨"com/example/lowtide/lowtide/ColumnsStartPinLaw", "pick", "(IIIII)I"⟩ : MethodName)) hown (mvT hZ (hw _ (List.mem_of_getElem? (i := 9) rfl))) (mvT hZ (hw _ (List.mem_of_getElem? (i := 10) rfl))) (mvT hZ (hw _ (List.mem_of_getElem? (i := 3) rfl))) (mvT hZ (hw _ (List.mem_of_getElem? (i := 11) rfl))) (by decide) (backOf (W := 0) (rm_pck l Z a0 hw [] v268 v150 v198 v102 (3 : Int32) h13 n0 Z13 ) hZ (hw _ (List.mem_of_getElem? (i := 11) rfl)) (hw _ (List.mem_of_getElem? (i := 3) rfl)) (by decide) (by decide)) (g := (mkF m 279 #[.val (.long q0), .second, .val (.int p1), .val (.int p2), .val (.int p3), .val (.int p4), .val (.ref b2), .val (.int v73), .val (.int v86), .val (.int v93), .val (.int v102), .val (.int v114), .val (.int v126), .val (.int v138), .val (.int v150), .val (.int v162), .val (.int v174), .val (.int (0 : Int32)), .val (.int v184), .val (.int v191), .val (.int v198), .val (.int v205), .val (.int v212), .val (.int v268)] [(.int (3 : Int32)), (.int v102), (.int v198), (.int v150), (.int v268)])) rfl (by rw [hml]; rfl) (argsL := [(.int v268), (.int v150), (.int v198), (.int v102), (.int (3 : Int32))]) (rest := []) (lenOf law_pd2 rfl) rfl (by show 2 * 0 + _ ≤ _; exact Nat.le_of_eq rfl) (hb hby at_279) (fun _ _ => ⟨rfl, e60, (by decide : 1 + 0 ≤ _), (by decide : 6 + 0 ≤ _)⟩)
  dsimp only [Pt.U, Pt.locs, Pt.cells, Pt.slots] at X63 l63 y63 z63 st63 hQ63
  rw [l63, y63, z63] at X63
  obtain ⟨rfl, N63q, e63⟩ := hQ63
  have N63 := Fr.app N60 N63q
  have K64 : ∀ t, Steps p.tables e below (T63.setTop (mkF m 284 #[.val (.long q0), .second, .val (.int p1), .val (.int p2), .val (.int p3), .val (.int p4), .val (.ref b2), .val (.int v73), .val (.int v86), .val (.int v93), .val (.int v102), .val (.int v114), .val (.int v126), .val (.int v138), .val (.int v150), .val (.int v162), .val (.int v174), .val (.int (0 : Int32)), .val (.int v184), .val (.int v191), .val (.int v198), .val (.int v205), .val (.int v212), .val (.int (fPk v268 v150 v198 v102 (3 : Int32)))] [])) t → P0 t := by
    intro t kt
    refine K62 t ?_
    show Steps p.tables e below (T60.setTop (mkF m 270 #[.val (.long q0), .second, .val (.int p1), .val (.int p2), .val (.int p3), .val (.int p4), .val (.ref b2), .val (.int v73), .val (.int v86), .val (.int v93), .val (.int v102), .val (.int v114), .val (.int v126), .val (.int v138), .val (.int v150), .val (.int v162), .val (.int v174), .val (.int (0 : Int32)), .val (.int v184), .val (.int v191), .val (.int v198), .val (.int v205), .val (.int v212), .val (.int v268)] [])) t
    refine XS.iload X60.here hx rfl (hb hby at_270) rfl ?_
    show Steps p.tables e below (T60.setTop (mkF m 272 #[.val (.long q0), .second, .val (.int p1), .val (.int p2), .val (.int p3), .val (.int p4), .val (.ref b2), .val (.int v73), .val (.int v86), .val (.int v93), .val (.int v102), .val (.int v114), .val (.int v126), .val (.int v138), .val (.int v150), .val (.int v162), .val (.int v174), .val (.int (0 : Int32)), .val (.int v184), .val (.int v191), .val (.int v198), .val (.int v205), .val (.int v212), .val (.int v268)] [(.int v268)])) t
    refine XS.iload X60.here hx rfl (hb hby at_272) rfl ?_
    show Steps p.tables e below (T60.setTop (mkF m 274 #[.val (.long q0), .second, .val (.int p1), .val (.int p2), .val (.int p3), .val (.int p4), .val (.ref b2), .val (.int v73), .val (.int v86), .val (.int v93), .val (.int v102), .val (.int v114), .val (.int v126), .val (.int v138), .val (.int v150), .val (.int v162), .val (.int v174), .val (.int (0 : Int32)), .val (.int v184), .val (.int v191), .val (.int v198), .val (.int v205), .val (.int v212), .val (.int v268)] [(.int v150), (.int v268)])) t
    refine XS.iload X60.here hx rfl (hb hby at_274) rfl ?_
    show Steps p.tables e below (T60.setTop (mkF m 276 #[.val (.long q0), .second, .val (.int p1), .val (.int p2), .val (.int p3), .val (.int p4), .val (.ref b2), .val (.int v73), .val (.int v86), .val (.int v93), .val (.int v102), .val (.int v114), .val (.int v126), .val (.int v138), .val (.int v150), .val (.int v162), .val (.int v174), .val (.int (0 : Int32)), .val (.int v184), .val (.int v191), .val (.int v198), .val (.int v205), .val (.int v212), .val (.int v268)] [(.int v198), (.int v150), (.int v268)])) t
    refine XS.iload X60.here hx rfl (hb hby at_276) rfl ?_
    show Steps p.tables e below (T60.setTop (mkF m 278 #[.val (.long q0), .second, .val (.int p1), .val (.int p2), .val (.int p3), .val (.int p4), .val (.ref b2), .val (.int v73), .val (.int v86), .val (.int v93), .val (.int v102), .val (.int v114), .val (.int v126), .val (.int v138), .val (.int v150), .val (.int v162), .val (.int v174), .val (.int (0 : Int32)), .val (.int v184), .val (.int v191), .val (.int v198), .val (.int v205), .val (.int v212), .val (.int v268)] [(.int v102), (.int v198), (.int v150), (.int v268)])) t
    refine XS.iconst X60.here hx rfl (hb hby at_278) ?_
    show Steps p.tables e below (T60.setTop (mkF m 279 #[.val (.long q0), .second, .val (.int p1), .val (.int p2), .val (.int p3), .val (.int p4), .val (.ref b2), .val (.int v73), .val (.int v86), .val (.int v93), .val (.int v102), .val (.int v114), .val (.int v126), .val (.int v138), .val (.int v150), .val (.int v162), .val (.int v174), .val (.int (0 : Int32)), .val (.int v184), .val (.int v191), .val (.int v198), .val (.int v205), .val (.int v212), .val (.int v268)] [(.int (3 : Int32)), (.int v102), (.int v198), (.int v150), (.int v268)])) t
    refine st63 _ ?_
    show Steps p.tables e below (T63.setTop (mkF m 282 #[.val (.long q0), .second, .val (.int p1), .val (.int p2), .val (.int p3), .val (.int p4), .val (.ref b2), .val (.int v73), .val (.int v86), .val (.int v93), .val (.int v102), .val (.int v114), .val (.int v126), .val (.int v138), .val (.int v150), .val (.int v162), .val (.int v174), .val (.int (0 : Int32)), .val (.int v184), .val (.int v191), .val (.int v198), .val (.int v205), .val (.int v212), .val (.int v268)] [(.int (fPk v268 v150 v198 v102 (3 : Int32)))])) t
    refine XS.istore X63.here hx rfl (hb hby at_282) rfl (l' := #[.val (.long q0), .second, .val (.int p1), .val (.int p2), .val (.int p3), .val (.int p4), .val (.ref b2), .val (.int v73), .val (.int v86), .val (.int v93), .val (.int v102), .val (.int v114), .val (.int v126), .val (.int v138), .val (.int v150), .val (.int v162), .val (.int v174), .val (.int (0 : Int32)), .val (.int v184), .val (.int v191), .val (.int v198), .val (.int v205), .val (.int v212), .val (.int (fPk v268 v150 v198 v102 (3 : Int32)))]) rfl ?_
    exact kt
  obtain ⟨v282, hv282, K65⟩ : ∃ v282 : Int32, v282 = (fPk v268 v150 v198 v102 (3 : Int32)) ∧ ∀ t, Steps p.tables e below (T63.setTop (mkF m 284 #[.val (.long q0), .second, .val (.int p1), .val (.int p2), .val (.int p3), .val (.int p4), .val (.ref b2), .val (.int v73), .val (.int v86), .val (.int v93), .val (.int v102), .val (.int v114), .val (.int v126), .val (.int v138), .val (.int v150), .val (.int v162), .val (.int v174), .val (.int (0 : Int32)), .val (.int v184), .val (.int v191), .val (.int v198), .val (.int v205), .val (.int v212), .val (.int v282)] [])) t → P0 t := ⟨_, rfl, K64⟩
  obtain ⟨_, _, ⟨T66, L66, k66, n66⟩, -, X66, ⟨Lc66, hQ66, l66, y66, z66⟩, st66⟩ := Jvm.LawKit.callS X63 hx (y := (⟨"com/example/lowtide/lowtide/ColumnsStartPinLaw", "pick", "(IIIII)I"⟩ : MethodName)) hown (mvT hZ (hw _ (List.mem_of_getElem? (i := 9) rfl))) (mvT hZ (hw _ (List.mem_of_getElem? (i := 10) rfl))) (mvT hZ (hw _ (List.mem_of_getElem? (i := 3) rfl))) (mvT hZ (hw _ (List.mem_of_getElem? (i := 11) rfl))) (by decide) (backOf (W := 0) (rm_pck l Z a0 hw [] v282 v162 v205 v102 (4 : Int32) h13 n0 Z13 ) hZ (hw _ (List.mem_of_getElem? (i := 11) rfl)) (hw _ (List.mem_of_getElem? (i := 3) rfl)) (by decide) (by decide)) (g := (mkF m 293 #[.val (.long q0), .second, .val (.int p1), .val (.int p2), .val (.int p3), .val (.int p4), .val (.ref b2), .val (.int v73), .val (.int v86), .val (.int v93), .val (.int v102), .val (.int v114), .val (.int v126), .val (.int v138), .val (.int v150), .val (.int v162), .val (.int v174), .val (.int (0 : Int32)), .val (.int v184), .val (.int v191), .val (.int v198), .val (.int v205), .val (.int v212), .val (.int v282)] [(.int (4 : Int32)), (.int v102), (.int v205), (.int v162), (.int v282)])) rfl (by rw [hml]; rfl) (argsL := [(.int v282), (.int v162), (.int v205), (.int v102), (.int (4 : Int32))]) (rest := []) (lenOf law_pd2 rfl) rfl (by show 2 * 0 + _ ≤ _; exact Nat.le_of_eq rfl) (hb hby at_293) (fun _ _ => ⟨rfl, e63, (by decide : 1 + 0 ≤ _), (by decide : 6 + 0 ≤ _)⟩)
  dsimp only [Pt.U, Pt.locs, Pt.cells, Pt.slots] at X66 l66 y66 z66 st66 hQ66
  rw [l66, y66, z66] at X66
  obtain ⟨rfl, N66q, e66⟩ := hQ66
  have N66 := Fr.app N63 N66q
  have K67 : ∀ t, Steps p.tables e below (T66.setTop (mkF m 298 #[.val (.long q0), .second, .val (.int p1), .val (.int p2), .val (.int p3), .val (.int p4), .val (.ref b2), .val (.int v73), .val (.int v86), .val (.int v93), .val (.int v102), .val (.int v114), .val (.int v126), .val (.int v138), .val (.int v150), .val (.int v162), .val (.int v174), .val (.int (0 : Int32)), .val (.int v184), .val (.int v191), .val (.int v198), .val (.int v205), .val (.int v212), .val (.int (fPk v282 v162 v205 v102 (4 : Int32)))] [])) t → P0 t := by
    intro t kt
    refine K65 t ?_
    show Steps p.tables e below (T63.setTop (mkF m 284 #[.val (.long q0), .second, .val (.int p1), .val (.int p2), .val (.int p3), .val (.int p4), .val (.ref b2), .val (.int v73), .val (.int v86), .val (.int v93), .val (.int v102), .val (.int v114), .val (.int v126), .val (.int v138), .val (.int v150), .val (.int v162), .val (.int v174), .val (.int (0 : Int32)), .val (.int v184), .val (.int v191), .val (.int v198), .val (.int v205), .val (.int v212), .val (.int v282)] [])) t
    refine XS.iload X63.here hx rfl (hb hby at_284) rfl ?_
    show Steps p.tables e below (T63.setTop (mkF m 286 #[.val (.long q0), .second, .val (.int p1), .val (.int p2), .val (.int p3), .val (.int p4), .val (.ref b2), .val (.int v73), .val (.int v86), .val (.int v93), .val (.int v102), .val (.int v114), .val (.int v126), .val (.int v138), .val (.int v150), .val (.int v162), .val (.int v174), .val (.int (0 : Int32)), .val (.int v184), .val (.int v191), .val (.int v198), .val (.int v205), .val (.int v212), .val (.int v282)] [(.int v282)])) t
    refine XS.iload X63.here hx rfl (hb hby at_286) rfl ?_
    show Steps p.tables e below (T63.setTop (mkF m 288 #[.val (.long q0), .second, .val (.int p1), .val (.int p2), .val (.int p3), .val (.int p4), .val (.ref b2), .val (.int v73), .val (.int v86), .val (.int v93), .val (.int v102), .val (.int v114), .val (.int v126), .val (.int v138), .val (.int v150), .val (.int v162), .val (.int v174), .val (.int (0 : Int32)), .val (.int v184), .val (.int v191), .val (.int v198), .val (.int v205), .val (.int v212), .val (.int v282)] [(.int v162), (.int v282)])) t
    refine XS.iload X63.here hx rfl (hb hby at_288) rfl ?_
    show Steps p.tables e below (T63.setTop (mkF m 290 #[.val (.long q0), .second, .val (.int p1), .val (.int p2), .val (.int p3), .val (.int p4), .val (.ref b2), .val (.int v73), .val (.int v86), .val (.int v93), .val (.int v102), .val (.int v114), .val (.int v126), .val (.int v138), .val (.int v150), .val (.int v162), .val (.int v174), .val (.int (0 : Int32)), .val (.int v184), .val (.int v191), .val (.int v198), .val (.int v205), .val (.int v212), .val (.int v282)] [(.int v205), (.int v162), (.int v282)])) t
    refine XS.iload X63.here hx rfl (hb hby at_290) rfl ?_
    show Steps p.tables e below (T63.setTop (mkF m 292 #[.val (.long q0), .second, .val (.int p1), .val (.int p2), .val (.int p3), .val (.int p4), .val (.ref b2), .val (.int v73), .val (.int v86), .val (.int v93), .val (.int v102), .val (.int v114), .val (.int v126), .val (.int v138), .val (.int v150), .val (.int v162), .val (.int v174), .val (.int (0 : Int32)), .val (.int v184), .val (.int v191), .val (.int v198), .val (.int v205), .val (.int v212), .val (.int v282)] [(.int v102), (.int v205), (.int v162), (.int v282)])) t
    refine XS.iconst X63.here hx rfl (hb hby at_292) ?_
    show Steps p.tables e below (T63.setTop (mkF m 293 #[.val (.long q0), .second, .val (.int p1), .val (.int p2), .val (.int p3), .val (.int p4), .val (.ref b2), .val (.int v73), .val (.int v86), .val (.int v93), .val (.int v102), .val (.int v114), .val (.int v126), .val (.int v138), .val (.int v150), .val (.int v162), .val (.int v174), .val (.int (0 : Int32)), .val (.int v184), .val (.int v191), .val (.int v198), .val (.int v205), .val (.int v212), .val (.int v282)] [(.int (4 : Int32)), (.int v102), (.int v205), (.int v162), (.int v282)])) t
    refine st66 _ ?_
    show Steps p.tables e below (T66.setTop (mkF m 296 #[.val (.long q0), .second, .val (.int p1), .val (.int p2), .val (.int p3), .val (.int p4), .val (.ref b2), .val (.int v73), .val (.int v86), .val (.int v93), .val (.int v102), .val (.int v114), .val (.int v126), .val (.int v138), .val (.int v150), .val (.int v162), .val (.int v174), .val (.int (0 : Int32)), .val (.int v184), .val (.int v191), .val (.int v198), .val (.int v205), .val (.int v212), .val (.int v282)] [(.int (fPk v282 v162 v205 v102 (4 : Int32)))])) t
    refine XS.istore X66.here hx rfl (hb hby at_296) rfl (l' := #[.val (.long q0), .second, .val (.int p1), .val (.int p2), .val (.int p3), .val (.int p4), .val (.ref b2), .val (.int v73), .val (.int v86), .val (.int v93), .val (.int v102), .val (.int v114), .val (.int v126), .val (.int v138), .val (.int v150), .val (.int v162), .val (.int v174), .val (.int (0 : Int32)), .val (.int v184), .val (.int v191), .val (.int v198), .val (.int v205), .val (.int v212), .val (.int (fPk v282 v162 v205 v102 (4 : Int32)))]) rfl ?_
    exact kt
  obtain ⟨v296, hv296, K68⟩ : ∃ v296 : Int32, v296 = (fPk v282 v162 v205 v102 (4 : Int32)) ∧ ∀ t, Steps p.tables e below (T66.setTop (mkF m 298 #[.val (.long q0), .second, .val (.int p1), .val (.int p2), .val (.int p3), .val (.int p4), .val (.ref b2), .val (.int v73), .val (.int v86), .val (.int v93), .val (.int v102), .val (.int v114), .val (.int v126), .val (.int v138), .val (.int v150), .val (.int v162), .val (.int v174), .val (.int (0 : Int32)), .val (.int v184), .val (.int v191), .val (.int v198), .val (.int v205), .val (.int v212), .val (.int v296)] [])) t → P0 t := ⟨_, rfl, K67⟩
  obtain ⟨_, _, ⟨T69, L69, k69, n69⟩, -, X69, ⟨Lc69, hQ69, l69, y69, z69⟩, st69⟩ := Jvm.LawKit.callS X66 hx (y := (⟨"com/example/lowtide/lowtide/ColumnsStartPinLaw", "pick", "(IIIII)I"⟩ : MethodName)) hown (mvT hZ (hw _ (List.mem_of_getElem? (i := 9) rfl))) (mvT hZ (hw _ (List.mem_of_getElem? (i := 10) rfl))) (mvT hZ (hw _ (List.mem_of_getElem? (i := 3) rfl))) (mvT hZ (hw _ (List.mem_of_getElem? (i := 11) rfl))) (by decide) (backOf (W := 0) (rm_pck l Z a0 hw [] v296 v174 v212 v102 (5 : Int32) h13 n0 Z13 ) hZ (hw _ (List.mem_of_getElem? (i := 11) rfl)) (hw _ (List.mem_of_getElem? (i := 3) rfl)) (by decide) (by decide)) (g := (mkF m 307 #[.val (.long q0), .second, .val (.int p1), .val (.int p2), .val (.int p3), .val (.int p4), .val (.ref b2), .val (.int v73), .val (.int v86), .val (.int v93), .val (.int v102), .val (.int v114), .val (.int v126), .val (.int v138), .val (.int v150), .val (.int v162), .val (.int v174), .val (.int (0 : Int32)), .val (.int v184), .val (.int v191), .val (.int v198), .val (.int v205), .val (.int v212), .val (.int v296)] [(.int (5 : Int32)), (.int v102), (.int v212), (.int v174), (.int v296)])) rfl (by rw [hml]; rfl) (argsL := [(.int v296), (.int v174), (.int v212), (.int v102), (.int (5 : Int32))]) (rest := []) (lenOf law_pd2 rfl) rfl (by show 2 * 0 + _ ≤ _; exact Nat.le_of_eq rfl) (hb hby at_307) (fun _ _ => ⟨rfl, e66, (by decide : 1 + 0 ≤ _), (by decide : 6 + 0 ≤ _)⟩)
  dsimp only [Pt.U, Pt.locs, Pt.cells, Pt.slots] at X69 l69 y69 z69 st69 hQ69
  rw [l69, y69, z69] at X69
  obtain ⟨rfl, N69q, e69⟩ := hQ69
  have N69 := Fr.app N66 N69q
  have K70 : ∀ t, Steps p.tables e below (T69.setTop (mkF m 312 #[.val (.long q0), .second, .val (.int p1), .val (.int p2), .val (.int p3), .val (.int p4), .val (.ref b2), .val (.int v73), .val (.int v86), .val (.int v93), .val (.int v102), .val (.int v114), .val (.int v126), .val (.int v138), .val (.int v150), .val (.int v162), .val (.int v174), .val (.int (0 : Int32)), .val (.int v184), .val (.int v191), .val (.int v198), .val (.int v205), .val (.int v212), .val (.int (fPk v296 v174 v212 v102 (5 : Int32)))] [])) t → P0 t := by
    intro t kt
    refine K68 t ?_
    show Steps p.tables e below (T66.setTop (mkF m 298 #[.val (.long q0), .second, .val (.int p1), .val (.int p2), .val (.int p3), .val (.int p4), .val (.ref b2), .val (.int v73), .val (.int v86), .val (.int v93), .val (.int v102), .val (.int v114), .val (.int v126), .val (.int v138), .val (.int v150), .val (.int v162), .val (.int v174), .val (.int (0 : Int32)), .val (.int v184), .val (.int v191), .val (.int v198), .val (.int v205), .val (.int v212), .val (.int v296)] [])) t
    refine XS.iload X66.here hx rfl (hb hby at_298) rfl ?_
    show Steps p.tables e below (T66.setTop (mkF m 300 #[.val (.long q0), .second, .val (.int p1), .val (.int p2), .val (.int p3), .val (.int p4), .val (.ref b2), .val (.int v73), .val (.int v86), .val (.int v93), .val (.int v102), .val (.int v114), .val (.int v126), .val (.int v138), .val (.int v150), .val (.int v162), .val (.int v174), .val (.int (0 : Int32)), .val (.int v184), .val (.int v191), .val (.int v198), .val (.int v205), .val (.int v212), .val (.int v296)] [(.int v296)])) t
    refine XS.iload X66.here hx rfl (hb hby at_300) rfl ?_
    show Steps p.tables e below (T66.setTop (mkF m 302 #[.val (.long q0), .second, .val (.int p1), .val (.int p2), .val (.int p3), .val (.int p4), .val (.ref b2), .val (.int v73), .val (.int v86), .val (.int v93), .val (.int v102), .val (.int v114), .val (.int v126), .val (.int v138), .val (.int v150), .val (.int v162), .val (.int v174), .val (.int (0 : Int32)), .val (.int v184), .val (.int v191), .val (.int v198), .val (.int v205), .val (.int v212), .val (.int v296)] [(.int v174), (.int v296)])) t
    refine XS.iload X66.here hx rfl (hb hby at_302) rfl ?_
    show Steps p.tables e below (T66.setTop (mkF m 304 #[.val (.long q0), .second, .val (.int p1), .val (.int p2), .val (.int p3), .val (.int p4), .val (.ref b2), .val (.int v73), .val (.int v86), .val (.int v93), .val (.int v102), .val (.int v114), .val (.int v126), .val (.int v138), .val (.int v150), .val (.int v162), .val (.int v174), .val (.int (0 : Int32)), .val (.int v184), .val (.int v191), .val (.int v198), .val (.int v205), .val (.int v212), .val (.int v296)] [(.int v212), (.int v174), (.int v296)])) t
    refine XS.iload X66.here hx rfl (hb hby at_304) rfl ?_
    show Steps p.tables e below (T66.setTop (mkF m 306 #[.val (.long q0), .second, .val (.int p1), .val (.int p2), .val (.int p3), .val (.int p4), .val (.ref b2), .val (.int v73), .val (.int v86), .val (.int v93), .val (.int v102), .val (.int v114), .val (.int v126), .val (.int v138), .val (.int v150), .val (.int v162), .val (.int v174), .val (.int (0 : Int32)), .val (.int v184), .val (.int v191), .val (.int v198), .val (.int v205), .val (.int v212), .val (.int v296)] [(.int v102), (.int v212), (.int v174), (.int v296)])) t
    refine XS.iconst X66.here hx rfl (hb hby at_306) ?_
    show Steps p.tables e below (T66.setTop (mkF m 307 #[.val (.long q0), .second, .val (.int p1), .val (.int p2), .val (.int p3), .val (.int p4), .val (.ref b2), .val (.int v73), .val (.int v86), .val (.int v93), .val (.int v102), .val (.int v114), .val (.int v126), .val (.int v138), .val (.int v150), .val (.int v162), .val (.int v174), .val (.int (0 : Int32)), .val (.int v184), .val (.int v191), .val (.int v198), .val (.int v205), .val (.int v212), .val (.int v296)] [(.int (5 : Int32)), (.int v102), (.int v212), (.int v174), (.int v296)])) t
    refine st69 _ ?_
    show Steps p.tables e below (T69.setTop (mkF m 310 #[.val (.long q0), .second, .val (.int p1), .val (.int p2), .val (.int p3), .val (.int p4), .val (.ref b2), .val (.int v73), .val (.int v86), .val (.int v93), .val (.int v102), .val (.int v114), .val (.int v126), .val (.int v138), .val (.int v150), .val (.int v162), .val (.int v174), .val (.int (0 : Int32)), .val (.int v184), .val (.int v191), .val (.int v198), .val (.int v205), .val (.int v212), .val (.int v296)] [(.int (fPk v296 v174 v212 v102 (5 : Int32)))])) t
    refine XS.istore X69.here hx rfl (hb hby at_310) rfl (l' := #[.val (.long q0), .second, .val (.int p1), .val (.int p2), .val (.int p3), .val (.int p4), .val (.ref b2), .val (.int v73), .val (.int v86), .val (.int v93), .val (.int v102), .val (.int v114), .val (.int v126), .val (.int v138), .val (.int v150), .val (.int v162), .val (.int v174), .val (.int (0 : Int32)), .val (.int v184), .val (.int v191), .val (.int v198), .val (.int v205), .val (.int v212), .val (.int (fPk v296 v174 v212 v102 (5 : Int32)))]) rfl ?_
    exact kt
  obtain ⟨v310, hv310, K71⟩ : ∃ v310 : Int32, v310 = (fPk v296 v174 v212 v102 (5 : Int32)) ∧ ∀ t, Steps p.tables e below (T69.setTop (mkF m 312 #[.val (.long q0), .second, .val (.int p1), .val (.int p2), .val (.int p3), .val (.int p4), .val (.ref b2), .val (.int v73), .val (.int v86), .val (.int v93), .val (.int v102), .val (.int v114), .val (.int v126), .val (.int v138), .val (.int v150), .val (.int v162), .val (.int v174), .val (.int (0 : Int32)), .val (.int v184), .val (.int v191), .val (.int v198), .val (.int v205), .val (.int v212), .val (.int v310)] [])) t → P0 t := ⟨_, rfl, K70⟩
  obtain ⟨_, _, ⟨T72, L72, k72, n72⟩, -, X72, ⟨Lc72, hQ72, l72, y72, z72⟩, st72⟩ := Jvm.LawKit.callS X69 hx (y := (⟨"com/example/lowtide/lowtide/Columns", "start", "([BIII)I"⟩ : MethodName)) hown (mvT hZ (hw _ (List.mem_of_getElem? (i := 12) rfl))) (mvT hZ (hw _ (List.mem_of_getElem? (i := 13) rfl))) (mvT hZ (hw _ (List.mem_of_getElem? (i := 14) rfl))) (mvT hZ (hw _ (List.mem_of_getElem? (i := 15) rfl))) (by decide) (backOf (W := 0) (rm_sta l Z a0 hw [] b2 v73 v86 v102 f65 a b col h13 n0 Z13 V13' hna (hv93.symm.trans hnb) hcol hab hb6 hc1 hc8) hZ (hw _ (List.mem_of_getElem? (i := 15) rfl)) (hw _ (List.mem_of_getElem? (i := 14) rfl)) (by decide) (by decide)) (g := (mkF m 320 #[.val (.long q0), .second, .val (.int p1), .val (.int p2), .val (.int p3), .val (.int p4), .val (.ref b2), .val (.int v73), .val (.int v86), .val (.int v93), .val (.int v102), .val (.int v114), .val (.int v126), .val (.int v138), .val (.int v150), .val (.int v162), .val (.int v174), .val (.int (0 : Int32)), .val (.int v184), .val (.int v191), .val (.int v198), .val (.int v205), .val (.int v212), .val (.int v310)] [(.int v102), (.int v86), (.int v73), (.ref b2)])) rfl (by rw [hml]; rfl) (argsL := [(.ref b2), (.int v73), (.int v86), (.int v102)]) (rest := []) (lenOf law_pd1 rfl) rfl (by show 2 * 0 + _ ≤ _; exact Nat.le_of_eq rfl) (hb hby at_320) (fun _ _ => ⟨rfl, e69, (by decide : 1 + 0 ≤ _), (by decide : 6 + 0 ≤ _)⟩)
  dsimp only [Pt.U, Pt.locs, Pt.cells, Pt.slots] at X72 l72 y72 z72 st72 hQ72
  rw [l72, y72, z72] at X72
  obtain ⟨rfl, N72q, e72⟩ := hQ72
  have N72 := Fr.app N69 N72q
  have K73 : ∀ t, Steps p.tables e below (T72.setTop (mkF m 325 #[.val (.long q0), .second, .val (.int p1), .val (.int p2), .val (.int p3), .val (.int p4), .val (.ref b2), .val (.int v73), .val (.int v86), .val (.int v93), .val (.int v102), .val (.int v114), .val (.int v126), .val (.int v138), .val (.int v150), .val (.int v162), .val (.int v174), .val (.int (0 : Int32)), .val (.int v184), .val (.int v191), .val (.int v198), .val (.int v205), .val (.int v212), .val (.int v310)] [(.int v310), (.int (startf f65 b (col - 1) a))])) t → P0 t := by
    intro t kt
    refine K71 t ?_
    show Steps p.tables e below (T69.setTop (mkF m 312 #[.val (.long q0), .second, .val (.int p1), .val (.int p2), .val (.int p3), .val (.int p4), .val (.ref b2), .val (.int v73), .val (.int v86), .val (.int v93), .val (.int v102), .val (.int v114), .val (.int v126), .val (.int v138), .val (.int v150), .val (.int v162), .val (.int v174), .val (.int (0 : Int32)), .val (.int v184), .val (.int v191), .val (.int v198), .val (.int v205), .val (.int v212), .val (.int v310)] [])) t
    refine XS.aload X69.here hx rfl (hb hby at_312) rfl rfl ?_
    show Steps p.tables e below (T69.setTop (mkF m 314 #[.val (.long q0), .second, .val (.int p1), .val (.int p2), .val (.int p3), .val (.int p4), .val (.ref b2), .val (.int v73), .val (.int v86), .val (.int v93), .val (.int v102), .val (.int v114), .val (.int v126), .val (.int v138), .val (.int v150), .val (.int v162), .val (.int v174), .val (.int (0 : Int32)), .val (.int v184), .val (.int v191), .val (.int v198), .val (.int v205), .val (.int v212), .val (.int v310)] [(.ref b2)])) t
    refine XS.iload X69.here hx rfl (hb hby at_314) rfl ?_
    show Steps p.tables e below (T69.setTop (mkF m 316 #[.val (.long q0), .second, .val (.int p1), .val (.int p2), .val (.int p3), .val (.int p4), .val (.ref b2), .val (.int v73), .val (.int v86), .val (.int v93), .val (.int v102), .val (.int v114), .val (.int v126), .val (.int v138), .val (.int v150), .val (.int v162), .val (.int v174), .val (.int (0 : Int32)), .val (.int v184), .val (.int v191), .val (.int v198), .val (.int v205), .val (.int v212), .val (.int v310)] [(.int v73), (.ref b2)])) t
    refine XS.iload X69.here hx rfl (hb hby at_316) rfl ?_
    show Steps p.tables e below (T69.setTop (mkF m 318 #[.val (.long q0), .second, .val (.int p1), .val (.int p2), .val (.int p3), .val (.int p4), .val (.ref b2), .val (.int v73), .val (.int v86), .val (.int v93), .val (.int v102), .val (.int v114), .val (.int v126), .val (.int v138), .val (.int v150), .val (.int v162), .val (.int v174), .val (.int (0 : Int32)), .val (.int v184), .val (.int v191), .val (.int v198), .val (.int v205), .val (.int v212), .val (.int v310)] [(.int v86), (.int v73), (.ref b2)])) t
    refine XS.iload X69.here hx rfl (hb hby at_318) rfl ?_
    show Steps p.tables e below (T69.setTop (mkF m 320 #[.val (.long q0), .second, .val (.int p1), .val (.int p2), .val (.int p3), .val (.int p4), .val (.ref b2), .val (.int v73), .val (.int v86), .val (.int v93), .val (.int v102), .val (.int v114), .val (.int v126), .val (.int v138), .val (.int v150), .val (.int v162), .val (.int v174), .val (.int (0 : Int32)), .val (.int v184), .val (.int v191), .val (.int v198), .val (.int v205), .val (.int v212), .val (.int v310)] [(.int v102), (.int v86), (.int v73), (.ref b2)])) t
    refine st72 _ ?_
    show Steps p.tables e below (T72.setTop (mkF m 323 #[.val (.long q0), .second, .val (.int p1), .val (.int p2), .val (.int p3), .val (.int p4), .val (.ref b2), .val (.int v73), .val (.int v86), .val (.int v93), .val (.int v102), .val (.int v114), .val (.int v126), .val (.int v138), .val (.int v150), .val (.int v162), .val (.int v174), .val (.int (0 : Int32)), .val (.int v184), .val (.int v191), .val (.int v198), .val (.int v205), .val (.int v212), .val (.int v310)] [(.int (startf f65 b (col - 1) a))])) t
    refine XS.iload X72.here hx rfl (hb hby at_323) rfl ?_
    exact kt
  obtain ⟨j333_s0, hj333_s0, K76⟩ : ∃ (j333_s0 : Int32), j333_s0 = (if (startf f65 b (col - 1) a) = v310 then (1 : Int32) else (0 : Int32)) ∧ ∀ t, Steps p.tables e below (T72.setTop (mkF m 333 #[.val (.long q0), .second, .val (.int p1), .val (.int p2), .val (.int p3), .val (.int p4), .val (.ref b2), .val (.int v73), .val (.int v86), .val (.int v93), .val (.int v102), .val (.int v114), .val (.int v126), .val (.int v138), .val (.int v150), .val (.int v162), .val (.int v174), .val (.int (0 : Int32)), .val (.int v184), .val (.int v191), .val (.int v198), .val (.int v205), .val (.int v212), .val (.int v310)] [(.int j333_s0)])) t → P0 t := by
    by_cases hc325 : (startf f65 b (col - 1) a) = v310
    · have K74 : ∀ t, Steps p.tables e below (T72.setTop (mkF m 333 #[.val (.long q0), .second, .val (.int p1), .val (.int p2), .val (.int p3), .val (.int p4), .val (.ref b2), .val (.int v73), .val (.int v86), .val (.int v93), .val (.int v102), .val (.int v114), .val (.int v126), .val (.int v138), .val (.int v150), .val (.int v162), .val (.int v174), .val (.int (0 : Int32)), .val (.int v184), .val (.int v191), .val (.int v198), .val (.int v205), .val (.int v212), .val (.int v310)] [(.int (1 : Int32))])) t → P0 t := by
        intro t kt
        refine K73 t ?_
        show Steps p.tables e below (T72.setTop (mkF m 325 #[.val (.long q0), .second, .val (.int p1), .val (.int p2), .val (.int p3), .val (.int p4), .val (.ref b2), .val (.int v73), .val (.int v86), .val (.int v93), .val (.int v102), .val (.int v114), .val (.int v126), .val (.int v138), .val (.int v150), .val (.int v162), .val (.int v174), .val (.int (0 : Int32)), .val (.int v184), .val (.int v191), .val (.int v198), .val (.int v205), .val (.int v212), .val (.int v310)] [(.int v310), (.int (startf f65 b (col - 1) a))])) t
        refine XS.icmpNo X72.here hx rfl (hb hby at_325) rfl (teq hc325).2 ?_
        show Steps p.tables e below (T72.setTop (mkF m 328 #[.val (.long q0), .second, .val (.int p1), .val (.int p2), .val (.int p3), .val (.int p4), .val (.ref b2), .val (.int v73), .val (.int v86), .val (.int v93), .val (.int v102), .val (.int v114), .val (.int v126), .val (.int v138), .val (.int v150), .val (.int v162), .val (.int v174), .val (.int (0 : Int32)), .val (.int v184), .val (.int v191), .val (.int v198), .val (.int v205), .val (.int v212), .val (.int v310)] [])) t
        refine XS.iconst X72.here hx rfl (hb hby at_328) ?_
        show Steps p.tables e below (T72.setTop (mkF m 329 #[.val (.long q0), .second, .val (.int p1), .val (.int p2), .val (.int p3), .val (.int p4), .val (.ref b2), .val (.int v73), .val (.int v86), .val (.int v93), .val (.int v102), .val (.int v114), .val (.int v126), .val (.int v138), .val (.int v150), .val (.int v162), .val (.int v174), .val (.int (0 : Int32)), .val (.int v184), .val (.int v191), .val (.int v198), .val (.int v205), .val (.int v212), .val (.int v310)] [(.int (1 : Int32))])) t
        refine XS.goto X72.here hx rfl (pc0 := 329) (pc' := 333) rfl (hb hby at_329) (by decide) (by decide) ?_
        exact kt
      exact ⟨_, (if_pos hc325).symm, K74⟩
    · have K75 : ∀ t, Steps p.tables e below (T72.setTop (mkF m 333 #[.val (.long q0), .second, .val (.int p1), .val (.int p2), .val (.int p3), .val (.int p4), .val (.ref b2), .val (.int v73), .val (.int v86), .val (.int v93), .val (.int v102), .val (.int v114), .val (.int v126), .val (.int v138), .val (.int v150), .val (.int v162), .val (.int v174), .val (.int (0 : Int32)), .val (.int v184), .val (.int v191), .val (.int v198), .val (.int v205), .val (.int v212), .val (.int v310)] [(.int (0 : Int32))])) t → P0 t := by
        intro t kt
        refine K73 t ?_
        show Steps p.tables e below (T72.setTop (mkF m 325 #[.val (.long q0), .second, .val (.int p1), .val (.int p2), .val (.int p3), .val (.int p4), .val (.ref b2), .val (.int v73), .val (.int v86), .val (.int v93), .val (.int v102), .val (.int v114), .val (.int v126), .val (.int v138), .val (.int v150), .val (.int v162), .val (.int v174), .val (.int (0 : Int32)), .val (.int v184), .val (.int v191), .val (.int v198), .val (.int v205), .val (.int v212), .val (.int v310)] [(.int v310), (.int (startf f65 b (col - 1) a))])) t
        refine XS.icmpYes X72.here hx rfl (pc0 := 325) (pc' := 332) rfl (hb hby at_325) rfl (feq hc325).2 (by decide) (by decide) ?_
        show Steps p.tables e below (T72.setTop (mkF m 332 #[.val (.long q0), .second, .val (.int p1), .val (.int p2), .val (.int p3), .val (.int p4), .val (.ref b2), .val (.int v73), .val (.int v86), .val (.int v93), .val (.int v102), .val (.int v114), .val (.int v126), .val (.int v138), .val (.int v150), .val (.int v162), .val (.int v174), .val (.int (0 : Int32)), .val (.int v184), .val (.int v191), .val (.int v198), .val (.int v205), .val (.int v212), .val (.int v310)] [])) t
        refine XS.iconst X72.here hx rfl (hb hby at_332) ?_
        exact kt
      exact ⟨_, (if_neg hc325).symm, K75⟩
  have hres : j333_s0 = 1 := own_plain q0 p1 p2 p3 p4 f2 f15 f25 f35 f45 f55 f65 v73 v86 v93 v102 a b col v114 v126 v138 v150 v162 v174 v184 v191 v198 v205 v212 j226_s0 v240 v254 v268 v282 v296 v310 j333_s0 hf2 hf15 hf25 hf35 hf45 hf55 hf65 hv73 hv86 hv93 hv102 hna hnb hab hb6 hcol hc1 hc8 hv114 hv126 hv138 hv150 hv162 hv174 hv184 hv191 hv198 hv205 hv212 hj226_s0 hv240 hv254 hv268 hv282 hv296 hv310 hj333_s0
  obtain ⟨fs, hr, hrun, hended, hW, hsame⟩ := X72.leave (v := some (.int (1 : Int32))) (fun h => by rw [Bd.returns] at h; cases h)
  refine ⟨_, _, ?_, hrun, hended, _, _, rfl, ?_, ⟨_, rfl⟩, hW, hsame.mono (by decide) (by decide)⟩
  · rw [hres] at K76
    have q := K76 _ (retN X72 hx (t := .boolean) Bd.returns (by simp) (hb hby at_333) hr)
    rw [hP0] at q; exact q
  · exact ⟨rfl, N72⟩
set_option maxRecDepth 65536 in
set_option maxHeartbeats 40000000 in
theorem comes_1 {Post : Tables → Env → Array Value → State → Outcome → State → Prop} (hpost : ∀ tb e args s v u, (limb_1_1.after args s (.returned v) u = true ∧ limb_1_2.after args s (.returned v) u = true ∧ True) → FrameEnd s (.returned v) u (Jvm.fieldLocs frame_1_writes args s ++ Jvm.arrayLocs frame_1_arrays args s ++ Jvm.staticLocs frame_1_statics s) 16 128 → Post tb e args s (.returned v) u) :
    ArmFor flags0 classFile x code maxLocals ret World_1 tables_1 room_1 Calls_1 rest_1 Pre_1 Post := by
  intro l hfl _ _ p e ha hc hk s m args below hf hA hF happ hP
  obtain ⟨hcalls, hrest, hpre⟩ := hP
  obtain ⟨-, -, -, hnamed, -, -, -, hat⟩ := (Spec.applies_iff hf).mp happ
  obtain ⟨hg, hn⟩ := and_e (Cond.before_iff.mp (show (Jvm.Cond.and given_1 narrow_1).before args s = true from hpre))
  obtain ⟨gc, gr0⟩ := and_e hg
  obtain ⟨ga0, gr1⟩ := and_e gr0
  obtain ⟨ga1, gr2⟩ := and_e gr1
  obtain ⟨ga2, gr3⟩ := and_e gr2
  obtain ⟨ga3, gr4⟩ := and_e gr3
  obtain ⟨w0, w1, w2, w3, w4, rfl⟩ : ∃ w0 w1 w2 w3 w4 : Value, args = #[w0, w1, w2, w3, w4] := by
    have hs : args.size = 5 := by simpa [Cond.value, given_1] using gc
    obtain ⟨L⟩ := args
    match L, hs with
    | [w0, w1, w2, w3, w4], _ => exact ⟨w0, w1, w2, w3, w4, rfl⟩
  have hw := fun d (hd : d ∈ tables_1) => atoms_spec (ws := Jvm.Cond.code x code maxLocals ret :: tables_1) hat d (List.mem_cons_of_mem _ hd)
  obtain ⟨i0, ei0⟩ := isL_v ga0
  obtain rfl : w0 = (.long i0) := Option.some.inj ei0
  obtain ⟨i1, ei1⟩ := is_v ga1
  obtain rfl : w1 = (.int i1) := Option.some.inj ei1
  obtain ⟨i2, ei2⟩ := is_v ga2
  obtain rfl : w2 = (.int i2) := Option.some.inj ei2
  obtain ⟨i3, ei3⟩ := is_v ga3
  obtain rfl : w3 = (.int i3) := Option.some.inj ei3
  obtain ⟨i4, ei4⟩ := is_v gr4
  obtain rfl : w4 = (.int i4) := Option.some.inj ei4
  obtain ⟨n, o, h1, h2, h3, _, L, rfl, ⟨rfl, N⟩, hq⟩ := rm_law l s _ hw tables_1 i0 i1 i2 i3 i4 s.heap s.heap.size (Nat.le_refl _) p e ha hc hk s m _ below hf ((Spec.applies_iff_loose hf).mp happ).1 ⟨rfl, State.Warmed39.refl s, rfl⟩ trivial
  refine ⟨n, _, h1, h2, h3, hpost _ _ _ _ _ _ ⟨Cond.after_iff.mpr rfl, Cond.after_iff.mpr (eq_i res_at (Term.int_eval (1)) rfl), trivial⟩ ⟨hq.1, hq.2.1, (hq.2.2.sift fun y hy => Or.inr (N y hy)).mono (by decide) (by decide)⟩⟩
theorem main_1_1 : Claimed_1_1 := comes_1 fun _ _ _ _ _ _ h hF => ⟨h.1, hF⟩
theorem main_1_2 : Claimed_1_2 := comes_1 fun _ _ _ _ _ _ h hF => ⟨h.2.1, hF⟩
end Jvm.Pilot.@@N@@
namespace Jvm.Pilot.@@N@@
open Jvm Jvm.ClassFile Sem Op Lib Jvm.Free Jvm.Stand Jvm.Pilot.@@N@@.Jvm.D
/-! MADE BY PROGRAM (witnessworld.py) out of the Statement's table words and the real class files: 9 classes; the members and pool entries that the words name. The judged class is class 1, her method 1. -/
namespace start1
open Jvm.ClassFile
def u (s : String) : CpInfo := .utf8 (stringToUtf16 s)
/-- a pool by its gaps: so many unusable entries, then the entry; so many at the end -/
def gap : Nat → List CpInfo → List CpInfo
  | 0, r => r
  | n + 1, r => .unusable :: gap n r
def poolList (es : List (Nat × CpInfo)) (last : Nat) : List CpInfo := es.foldr (fun e r => gap e.1 (e.2 :: r)) (gap last [])
def pool (es : List (Nat × CpInfo)) (last : Nat) : Array CpInfo := ⟨poolList es last⟩
def fileOf (pool : Array CpInfo) (this : Nat) (attrs : Array Attribute := #[]) (ms : Array MethodInfo := #[]) (fl : Nat := 33) (sup : Nat := 0) (ifs : Array Nat := #[]) (fds : Array FieldInfo := #[]) : ClassFile where
  minorVersion := 0
  majorVersion := 65
  constantPool := pool
  accessFlags := fl
  thisClass := this
  superClass := sup
  interfaces := ifs
  fields := fds
  methods := ms
  attributes := attrs
def plain (name : String) (sup : Option ClassId) : Class where
  name := name
  kind := .ordinary
  loader := none
  accessFlags := 33
  super := sup
  interfaces := #[]
  cf := none
  fields := #[]
  methods := #[]
  instanceTypes := #[]
  staticTypes := #[]
  resolved := #[]
  callSites := []
  init := .initialized
  statics := none
  mirror := none

def pool0 : Array CpInfo := pool [(5, u "<init>"), (0, u "()V"), (1, .class_ 10), (1, u "java/lang/Object")] 113

def k0m0 : Method := { name := "<init>", desc := "()V", sig := { parameters := [], returnType := none }, accessFlags := 1, code := none }
/-- java/lang/Object -/
def k0 : Class := { plain "java/lang/Object" none with
  accessFlags := 33
  interfaces := #[]
  cf := some (fileOf pool0 8 #[] #[{ accessFlags := 1, nameIndex := 5, descriptorIndex := 6, attributes := #[] }] 33 0 #[] #[])
  fields := #[]
  methods := #[k0m0]
  instanceTypes := #[]
  staticTypes := #[]
  resolved := Array.replicate 124 none
  statics := none }

def pool1 : Array CpInfo := pool [(2, .class_ 4), (1, u "java/lang/Object"), (0, u "<init>"), (0, u "()V"), (0, .methodref 8 9), (0, .class_ 10), (0, .nameAndType 11 12), (0, u "com/example/lowtide/lowtide/ColumnsStartPinLaw"), (0, u "b"), (0, u "(JII)B"), (0, .integer 2147483647), (0, .methodref 8 15), (0, .nameAndType 16 17), (0, u "t"), (0, u "([BIII)I"), (0, .methodref 8 19), (0, .nameAndType 20 21), (0, u "pick"), (0, u "(IIIII)I"), (0, .methodref 23 24), (0, .class_ 25), (0, .nameAndType 26 17), (0, u "com/example/lowtide/lowtide/Columns"), (0, u "start"), (2, u "law"), (0, u "(JIIII)Z")] 5

def k1m0 : Method := { name := "<init>", desc := "()V", sig := { parameters := [], returnType := none }, accessFlags := 1, code := none }
def k1c1 : Code := { maxStack := 6, maxLocals := 24, code := code, exceptionTable := #[], attributes := #[] }
def k1m1 : Method := { name := "law", desc := "(JIIII)Z", sig := { parameters := [.long, .int, .int, .int, .int], returnType := some .boolean }, accessFlags := 9, code := some k1c1 }
def k1c2 : Code := { maxStack := 4, maxLocals := 4, code := method_3_code, exceptionTable := #[], attributes := #[] }
def k1m2 : Method := { name := "b", desc := "(JII)B", sig := { parameters := [.long, .int, .int], returnType := some .byte }, accessFlags := 10, code := some k1c2 }
def k1c3 : Code := { maxStack := 2, maxLocals := 4, code := method_4_code, exceptionTable := #[], attributes := #[] }
def k1m3 : Method := { name := "t", desc := "([BIII)I", sig := { parameters := [(.array .byte), .int, .int, .int], returnType := some .int }, accessFlags := 10, code := some k1c3 }
def k1c4 : Code := { maxStack := 3, maxLocals := 5, code := method_5_code, exceptionTable := #[], attributes := #[] }
def k1m4 : Method := { name := "pick", desc := "(IIIII)I", sig := { parameters := [.int, .int, .int, .int, .int], returnType := some .int }, accessFlags := 10, code := some k1c4 }
/-- com/example/lowtide/lowtide/ColumnsStartPinLaw -/
def k1 : Class := { plain "com/example/lowtide/lowtide/ColumnsStartPinLaw" (some 0) with
  accessFlags := 49
  interfaces := #[]
  cf := some (fileOf pool1 8 #[] #[{ accessFlags := 1, nameIndex := 5, descriptorIndex := 6, attributes := #[] }, { accessFlags := 9, nameIndex := 29, descriptorIndex := 30, attributes := #[] }, { accessFlags := 10, nameIndex := 11, descriptorIndex := 12, attributes := #[] }, { accessFlags := 10, nameIndex := 16, descriptorIndex := 17, attributes := #[] }, { accessFlags := 10, nameIndex := 20, descriptorIndex := 21, attributes := #[] }] 49 2 #[] #[])
  fields := #[]
  methods := #[k1m0, k1m1, k1m2, k1m3, k1m4]
  instanceTypes := #[]
  staticTypes := #[]
  resolved := Array.replicate 36 none
  statics := none }

def pool2 : Array CpInfo := pool [(2, .class_ 4), (1, u "java/lang/Object"), (0, u "<init>"), (0, u "()V"), (0, .methodref 8 9), (0, .class_ 10), (0, .nameAndType 11 12), (0, u "com/example/lowtide/lowtide/Columns"), (0, u "end"), (0, u "([BII)I"), (2, u "start"), (0, u "([BIII)I")] 59

def k2m0 : Method := { name := "<init>", desc := "()V", sig := { parameters := [], returnType := none }, accessFlags := 2, code := none }
def k2c1 : Code := { maxStack := 3, maxLocals := 8, code := prog_2_method_2_code, exceptionTable := #[], attributes := #[] }
def k2m1 : Method := { name := "start", desc := "([BIII)I", sig := { parameters := [(.array .byte), .int, .int, .int], returnType := some .int }, accessFlags := 8, code := some k2c1 }
def k2c2 : Code := { maxStack := 2, maxLocals := 4, code := prog_2_method_3_code, exceptionTable := #[], attributes := #[] }
def k2m2 : Method := { name := "end", desc := "([BII)I", sig := { parameters := [(.array .byte), .int, .int], returnType := some .int }, accessFlags := 8, code := some k2c2 }
/-- com/example/lowtide/lowtide/Columns -/
def k2 : Class := { plain "com/example/lowtide/lowtide/Columns" (some 0) with
  accessFlags := 48
  interfaces := #[]
  cf := some (fileOf pool2 8 #[] #[{ accessFlags := 2, nameIndex := 5, descriptorIndex := 6, attributes := #[] }, { accessFlags := 8, nameIndex := 15, descriptorIndex := 16, attributes := #[] }, { accessFlags := 8, nameIndex := 11, descriptorIndex := 12, attributes := #[] }] 48 2 #[] #[])
  fields := #[]
  methods := #[k2m0, k2m1, k2m2]
  instanceTypes := #[]
  staticTypes := #[]
  resolved := Array.replicate 76 none
  statics := none }

def pool3 : Array CpInfo := pool [(1, u "java/lang/Cloneable"), (0, .class_ 1), (0, u "java/lang/Object"), (0, .class_ 3)] 3

/-- java/lang/Cloneable -/
def k3 : Class := { plain "java/lang/Cloneable" (some 0) with
  accessFlags := 1537
  interfaces := #[]
  cf := some (fileOf pool3 2 #[] #[] 1537 4 #[] #[])
  fields := #[]
  methods := #[]
  instanceTypes := #[]
  staticTypes := #[]
  resolved := Array.replicate 8 none
  statics := none }

def pool4 : Array CpInfo := pool [(1, u "java/io/Serializable"), (0, .class_ 1), (0, u "java/lang/Object"), (0, .class_ 3)] 3

/-- java/io/Serializable -/
def k4 : Class := { plain "java/io/Serializable" (some 0) with
  accessFlags := 1537
  interfaces := #[]
  cf := some (fileOf pool4 2 #[] #[] 1537 4 #[] #[])
  fields := #[]
  methods := #[]
  instanceTypes := #[]
  staticTypes := #[]
  resolved := Array.replicate 8 none
  statics := none }

/-- the primitive byte -/
def k5 : Class := { plain "byte" none with kind := .primitive 'B', accessFlags := 0x411 }
/-- [B -/
def k6 : Class := { plain "[B" (some 0) with kind := .array 5 .byte, interfaces := #[3, 4], accessFlags := 1041 }

/-- the primitive int -/
def k7 : Class := { plain "int" none with kind := .primitive 'I', accessFlags := 0x411 }
/-- [I -/
def k8 : Class := { plain "[I" (some 0) with kind := .array 7 .int, interfaces := #[3, 4], accessFlags := 1041 }

def heap : Heap := #[]
def classes : Array Class := #[k0, k1, k2, k3, k4, k5, k6, k7, k8]
def interned : List (Array UInt16 × Addr) := []
def slotsUsed : Nat := 0
def theMethod : MethodId := ⟨1, 1⟩
def args0 : Array Value := #[.long 5, .int 300, .int 7, .int 9, .int 3]
def aboutOver (below : List Frame) : State where
  vm := { classes := classes, interned := interned.toArray }
  heap := heap
  slotsUsed := slotsUsed
  threads := #[{ frames := .invoking theMethod args0 :: below }]
def below0 : List Frame := [.native { method := ⟨0, 0⟩, args := #[] }]
def about1 : State := aboutOver below0
def p0 : Program := .bare "" "" ""
def e0 : Env := launch0.env 0 0 0
theorem w_frames : about1.frames = Frame.invoking theMethod args0 :: below0 := rfl
set_option maxRecDepth 65536 in
theorem w_args : argsFit about1.vm theMethod args0 = true := by decide +kernel
set_option maxRecDepth 65536 in
theorem w_heap : heapFits about1 = true := by decide +kernel
set_option maxRecDepth 65536 in
theorem w_runnable : about1.curStatus? = some .runnable := by decide +kernel
set_option maxRecDepth 65536 in
theorem w_alone : about1.alone = true := by decide +kernel
set_option maxRecDepth 65536 in
theorem w_named : about1.methodNamed? x = some theMethod := by decide +kernel
set_option maxRecDepth 65536 in
theorem w_hears : about1.hears theMethod below0 = true := by decide +kernel
set_option maxRecDepth 65536 in
theorem w_ripe : about1.ripe theMethod args0 below0 = true := by decide +kernel
theorem w_running : about1.status = .running := rfl
set_option maxRecDepth 65536 in
theorem w_room : about1.hasRoom e0.platform room_1 = true :=
  launch0.hasRoom_least _ room_1 (by decide +kernel) (by decide +kernel) (by decide +kernel) (by decide +kernel) (by decide +kernel) (by decide +kernel)
theorem allAtoms_all (ts : List Jvm.Cond) (a : Array Jvm.Value) (st : Jvm.State) : (allAtoms ts).before a st = ts.all (fun c => c.before a st) := by
  induction ts with
  | nil => rfl
  | cons c t ih =>
    show (Jvm.Cond.and c (allAtoms t)).before a st = _
    rw [Jvm.Cond.before_and, ih, List.all_cons]
def words1 : List Jvm.Cond := Jvm.Cond.code x code maxLocals ret :: tables_1
/-- a 'code' word, met by the world's own term for the bytes: nothing is compared byte by byte -/
theorem code_word {y : MethodName} {bytes : ByteArray} {mx : Nat} {rt : Option FieldType} {a : Array Value} {s : State} {m : MethodId} {meth : Method} {c : Code} (h1 : s.methodNamed? y = some m) (h2 : s.vm.method? m = some meth) (h3 : meth.code = some c) (h4 : c.code = bytes)
    (h5 : (c.maxLocals == mx && c.exceptionTable.isEmpty && decide (c.maxStack ≤ mostOperands) && decide (meth.sig.returnType = rt) && !meth.locks && decide (parseMethodDescriptor y.desc = some meth.sig)) = true) : (Jvm.Cond.code y bytes mx rt).before a s = true := by
  simp only [Bool.and_eq_true, beq_iff_eq, Bool.not_eq_true', decide_eq_true_eq] at h5
  obtain ⟨⟨⟨⟨⟨g1, g2⟩, g3⟩, g4⟩, g5⟩, g6⟩ := h5
  simp [Cond.before, Cond.holds, Cond.value, h1, h2, h3, h4, g1, g2, g3, g4, g5, g6]
def isCode : Jvm.Cond → Bool
  | .code _ _ _ _ => true
  | _ => false
theorem all_split {L : List Jvm.Cond} {P : Jvm.Cond → Bool} (h1 : L.all (fun c => isCode c || P c) = true) (h2 : ∀ c ∈ L.filter isCode, P c = true) : L.all P = true := by
  refine List.all_eq_true.mpr fun c hc => ?_
  have h := List.all_eq_true.mp h1 c hc
  rcases Bool.eq_false_or_eq_true (isCode c) with hi | hi
  · exact h2 c (List.mem_filter.mpr ⟨hc, hi⟩)
  · simpa [hi] using h
set_option maxRecDepth 65536 in
theorem w_c0 : (Jvm.Cond.code x code maxLocals ret).before args0 about1 = true := code_word (m := ⟨1, 1⟩) (meth := k1m1) (c := k1c1) (by decide +kernel) rfl rfl rfl (by decide +kernel)
set_option maxRecDepth 65536 in
theorem w_c1 : (Jvm.Cond.code ({ cls := "com/example/lowtide/lowtide/ColumnsStartPinLaw", name := "b", desc := "(JII)B" } : Jvm.MethodName) method_3_code (4 : Nat) (Option.some Jvm.ClassFile.FieldType.byte)).before args0 about1 = true := code_word (m := ⟨1, 2⟩) (meth := k1m2) (c := k1c2) (by decide +kernel) rfl rfl rfl (by decide +kernel)
set_option maxRecDepth 65536 in
theorem w_c2 : (Jvm.Cond.code ({ cls := "com/example/lowtide/lowtide/ColumnsStartPinLaw", name := "t", desc := "([BIII)I" } : Jvm.MethodName) method_4_code (4 : Nat) (Option.some Jvm.ClassFile.FieldType.int)).before args0 about1 = true := code_word (m := ⟨1, 3⟩) (meth := k1m3) (c := k1c3) (by decide +kernel) rfl rfl rfl (by decide +kernel)
set_option maxRecDepth 65536 in
theorem w_c3 : (Jvm.Cond.code ({ cls := "com/example/lowtide/lowtide/ColumnsStartPinLaw", name := "pick", desc := "(IIIII)I" } : Jvm.MethodName) method_5_code (5 : Nat) (Option.some Jvm.ClassFile.FieldType.int)).before args0 about1 = true := code_word (m := ⟨1, 4⟩) (meth := k1m4) (c := k1c4) (by decide +kernel) rfl rfl rfl (by decide +kernel)
set_option maxRecDepth 65536 in
theorem w_c4 : (Jvm.Cond.code ({ cls := "com/example/lowtide/lowtide/Columns", name := "start", desc := "([BIII)I" } : Jvm.MethodName) prog_2_method_2_code (8 : Nat) (Option.some Jvm.ClassFile.FieldType.int)).before args0 about1 = true := code_word (m := ⟨2, 1⟩) (meth := k2m1) (c := k2c1) (by decide +kernel) rfl rfl rfl (by decide +kernel)
set_option maxRecDepth 65536 in
theorem w_c5 : (Jvm.Cond.code ({ cls := "com/example/lowtide/lowtide/Columns", name := "end", desc := "([BII)I" } : Jvm.MethodName) prog_2_method_3_code (4 : Nat) (Option.some Jvm.ClassFile.FieldType.int)).before args0 about1 = true := code_word (m := ⟨2, 2⟩) (meth := k2m2) (c := k2c2) (by decide +kernel) rfl rfl rfl (by decide +kernel)
def codes1 : List Jvm.Cond := [Jvm.Cond.code x code maxLocals ret, Jvm.Cond.code ({ cls := "com/example/lowtide/lowtide/ColumnsStartPinLaw", name := "b", desc := "(JII)B" } : Jvm.MethodName) method_3_code (4 : Nat) (Option.some Jvm.ClassFile.FieldType.byte), Jvm.Cond.code ({ cls := "com/example/lowtide/lowtide/ColumnsStartPinLaw", name := "t", desc := "([BIII)I" } : Jvm.MethodName) method_4_code (4 : Nat) (Option.some Jvm.ClassFile.FieldType.int), Jvm.Cond.code ({ cls := "com/example/lowtide/lowtide/ColumnsStartPinLaw", name := "pick", desc := "(IIIII)I" } : Jvm.MethodName) method_5_code (5 : Nat) (Option.some Jvm.ClassFile.FieldType.int), Jvm.Cond.code ({ cls := "com/example/lowtide/lowtide/Columns", name := "start", desc := "([BIII)I" } : Jvm.MethodName) prog_2_method_2_code (8 : Nat) (Option.some Jvm.ClassFile.FieldType.int), Jvm.Cond.code ({ cls := "com/example/lowtide/lowtide/Columns", name := "end", desc := "([BII)I" } : Jvm.MethodName) prog_2_method_3_code (4 : Nat) (Option.some Jvm.ClassFile.FieldType.int)]
set_option maxRecDepth 65536 in
theorem codes_eq : words1.filter isCode = codes1 := rfl
theorem w_codes : ∀ c ∈ words1.filter isCode, c.before args0 about1 = true := by
  rw [codes_eq]
  intro c hc
  simp only [codes1, List.mem_cons, List.not_mem_nil, or_false] at hc
  rcases hc with rfl | rfl | rfl | rfl | rfl | rfl
  · exact w_c0
  · exact w_c1
  · exact w_c2
  · exact w_c3
  · exact w_c4
  · exact w_c5
set_option maxRecDepth 65536 in
theorem w_t1 : words1.all (fun c => isCode c || c.before args0 about1) = true := by decide +kernel
theorem w_tables : (allAtoms (Jvm.Cond.code x code maxLocals ret :: tables_1)).before args0 about1 = true := by
  rw [allAtoms_all]
  show words1.all (fun c => c.before args0 about1) = true
  refine all_split ?_ w_codes
  rw [w_t1]
set_option maxRecDepth 65536 in
theorem w_case : (Jvm.Cond.and given_1 narrow_1).before args0 about1 = true := by decide +kernel
theorem w_applies : (headSpec (Jvm.Cond.code x code maxLocals ret :: tables_1) room_1).applies x e0.platform about1 = true :=
  (Spec.applies_iff w_frames).mpr ⟨w_running, w_runnable, w_alone, w_named, w_hears, w_ripe, w_room, w_tables⟩
theorem atStart : AtStart classFile x code maxLocals ret World_1 tables_1 room_1 Calls_1 rest_1 Pre_1 launch0 p0 e0 about1 theMethod args0 below0 :=
  ⟨lists_1, trivial, launch0.admits_env _ _ _, launch0.least_env, fairChoices_fair.cas, fairChoices_fair.clock, w_frames, w_args, w_heap, w_applies, trivial, trivial, w_case⟩
end start1
theorem witness_1 : WitnessClaimed_1 := ⟨start1.p0, start1.e0, start1.about1, start1.theMethod, start1.args0, start1.below0, start1.atStart⟩
end Jvm.Pilot.@@N@@
