import JvmDerived
import JvmDerived.Pilot.@@N@@Statement
import JvmDerived.Pilot.@@N@@Code
set_option linter.unusedVariables false
set_option linter.unusedSimpArgs false
namespace Jvm.Pilot.@@N@@
open Jvm Jvm.ClassFile Sem Op Lib Jvm.Free Jvm.Stand Jvm.LawKit Jvm.RoadKit Bundle Jvm.Pilot.@@N@@.Jvm.D
/-! my own small laws: arrays by a function of the place; returns -/
def IA (Z : State) (h : Heap) (a : Addr) (ty : FieldType) (n : Nat) (f : Nat → Int32) : Prop :=
  ∃ c : Cell, Arr Z h a c ty ∧ c.slots.size = n ∧ ∀ j, j < n → c.slots[j]? = some (.int (f j)) ∧ fits ty (.int (f j)) = true
def JA (Z : State) (h : Heap) (a : Addr) (n : Nat) (f : Nat → Int64) : Prop :=
  ∃ c : Cell, Arr Z h a c .long ∧ c.slots.size = n ∧ ∀ j, j < n → c.slots[j]? = some (.long (f j))
def upd (f : Nat → Int32) (i : Nat) (v : Int32) : Nat → Int32 := fun j => if j = i then v else f j
def updJ (f : Nat → Int64) (i : Nat) (v : Int64) : Nat → Int64 := fun j => if j = i then v else f j
def QP (r : Value) (h0 : Heap) (n0 : Nat) (v : Option Value) (h : Heap) (L : List Loc) : Prop := v = some r ∧ Fr n0 L ∧ h = h0
def QK (r : Value) (h0 : Heap) (n0 : Nat) (v : Option Value) (h : Heap) (L : List Loc) : Prop := v = some r ∧ Fr n0 L ∧ Keep h0 h []
def QL (n0 : Nat) (v : Option Value) (h : Heap) (L : List Loc) : Prop := v = some (.int 1) ∧ Fr n0 L
section Own
variable {p : Program} {l : Launch} {e : Env} {R : Room} {s : State} {m : MethodId} {args : Array Value} {below : List Frame} {meth : Method} {c : Code} {T : State} {locs : List Loc} {cells slots : Nat} {Z : State} {h h' : Heap} {a b : Addr} {ty : FieldType} {n : Nat} {f : Nat → Int32} {fJ : Nat → Int64} {sl : Nat} {v : Value} {wl : List Addr}
theorem IA.lt (F : IA Z h a ty n f) : a < h.size := by obtain ⟨c, A, -⟩ := F; exact A.lt
theorem IA.ext (F : IA Z h a ty n f) (E : Ext h h') : IA Z h' a ty n f := by obtain ⟨c, A, r⟩ := F; exact ⟨c, A.ext E, r⟩
theorem IA.other (F : IA Z h b ty n f) (W : Wr h h' a sl v) (q : b ≠ a) : IA Z h' b ty n f := by obtain ⟨c, A, r⟩ := F; exact ⟨c, A.other W q, r⟩
theorem IA.keep (F : IA Z h a ty n f) (K : Keep h h' wl) (q : a ∉ wl) : IA Z h' a ty n f := by obtain ⟨c, A, r⟩ := F; exact ⟨c, ⟨K.2.1 a c A.1 q, A.2⟩, r⟩
theorem IA.new {k : ClassId} {z : Int32} (A : Arr Z h a (newA k ty z) ty) (hd : defaultValue ty = .int 0) (hf : fits ty (.int 0) = true) (hz : z.toNatClampNeg = n) : IA Z h a ty n (fun _ => 0) := by
  refine ⟨_, A, by rw [sz_new, hz], fun j hj => ⟨?_, hf⟩⟩
  have : j < z.toNatClampNeg := by rw [hz]; exact hj
  simp [newA, hd, this]
theorem IA.set {c : Cell} (A : Arr Z h a c ty) (S : c.slots.size = n) (H : ∀ j, j < n → c.slots[j]? = some (.int (f j)) ∧ fits ty (.int (f j)) = true) {x : Int32} (hv : fits ty (.int x) = true) {i : Nat} (W : Wr h h' a i (.int x)) (hi : i < n) : IA Z h' a ty n (upd f i x) := by
  refine ⟨_, A.same W, by rw [sz_set, S], fun j hj => ?_⟩
  unfold upd
  by_cases q : j = i
  · subst q; simp [Cell.setSlot, S, hi, hv]
  · have := H j hj
    rw [if_neg q]
    refine ⟨?_, this.2⟩
    rw [← this.1]
    show (c.slots.setIfInBounds i (.int x))[j]? = _
    exact Array.getElem?_setIfInBounds_ne (Ne.symm q)
theorem JA.lt (F : JA Z h a n fJ) : a < h.size := by obtain ⟨c, A, -⟩ := F; exact A.lt
theorem JA.ext (F : JA Z h a n fJ) (E : Ext h h') : JA Z h' a n fJ := by obtain ⟨c, A, r⟩ := F; exact ⟨c, A.ext E, r⟩
theorem JA.other (F : JA Z h b n fJ) (W : Wr h h' a sl v) (q : b ≠ a) : JA Z h' b n fJ := by obtain ⟨c, A, r⟩ := F; exact ⟨c, A.other W q, r⟩
theorem JA.keep (F : JA Z h a n fJ) (K : Keep h h' wl) (q : a ∉ wl) : JA Z h' a n fJ := by obtain ⟨c, A, r⟩ := F; exact ⟨c, ⟨K.2.1 a c A.1 q, A.2⟩, r⟩
theorem JA.new {k : ClassId} {z : Int32} (A : Arr Z h a (newA k .long z) .long) (hz : z.toNatClampNeg = n) : JA Z h a n (fun _ => 0) := by
  refine ⟨_, A, by rw [sz_new, hz], fun j hj => ?_⟩
  have : j < z.toNatClampNeg := by rw [hz]; exact hj
  simp [newA, defaultValue, this]
theorem JA.set {c : Cell} (A : Arr Z h a c .long) (S : c.slots.size = n) (H : ∀ j, j < n → c.slots[j]? = some (.long (fJ j))) {x : Int64} {i : Nat} (W : Wr h h' a i (.long x)) (hi : i < n) : JA Z h' a n (updJ fJ i x) := by
  refine ⟨_, A.same W, by rw [sz_set, S], fun j hj => ?_⟩
  unfold updJ
  by_cases q : j = i
  · subst q; simp [Cell.setSlot, S, hi]
  · rw [if_neg q, ← H j hj]
    show (c.slots.setIfInBounds i (.long x))[j]? = _
    exact Array.getElem?_setIfInBounds_ne (Ne.symm q)
theorem stBA (X : Stand p l e R s m args below meth c T locs cells slots) (hx : p.tables.exec = Jvm.exec) (hZ : Z.Warmed39 s.vm) (eT : T.heap = h) (V : IA Z h a .byte n f) {j x : Int32} (hj : ¬ (j < 0 ∨ n ≤ j.toNatClampNeg)) {g : JFrame} (hg : g.method = m) {rest : List Value} (hs : g.stack = .int x :: .int j :: .ref a :: rest) (hd : decode c.code g.pc = .ok (.bastore, 1)) :
    ∃ T' h', Stand p l e R s m args below meth c T' (locs ++ [⟨a, j.toNatClampNeg⟩]) cells slots ∧ T'.heap = h' ∧ (∃ sl v, Wr h h' a sl v) ∧ IA Z h' a .byte n (upd f j.toNatClampNeg (nar .byte x)) ∧ ∀ target, Steps p.tables e below (T'.setTop { g with pc := g.pc + 1, stack := rest }) target → Steps p.tables e below (T.setTop g) target := by
  obtain ⟨cl, A, S, H⟩ := V
  obtain ⟨T', h', X', e', W, st⟩ := stB X hx hZ eT A (j := j) (x := x) (by rw [S]; exact hj) hg hs hd
  exact ⟨T', h', X', e', ⟨_, _, W⟩, IA.set A S H (fits_nar_byte _) W (Nat.lt_of_not_le fun q => hj (Or.inr q)), st⟩
theorem stIA (X : Stand p l e R s m args below meth c T locs cells slots) (hx : p.tables.exec = Jvm.exec) (hZ : Z.Warmed39 s.vm) (eT : T.heap = h) (V : IA Z h a .int n f) {j x : Int32} (hj : ¬ (j < 0 ∨ n ≤ j.toNatClampNeg)) {g : JFrame} (hg : g.method = m) {rest : List Value} (hs : g.stack = .int x :: .int j :: .ref a :: rest) (hd : decode c.code g.pc = .ok (.iastore, 1)) :
    ∃ T' h', Stand p l e R s m args below meth c T' (locs ++ [⟨a, j.toNatClampNeg⟩]) cells slots ∧ T'.heap = h' ∧ (∃ sl v, Wr h h' a sl v) ∧ IA Z h' a .int n (upd f j.toNatClampNeg x) ∧ ∀ target, Steps p.tables e below (T'.setTop { g with pc := g.pc + 1, stack := rest }) target → Steps p.tables e below (T.setTop g) target := by
  obtain ⟨cl, A, S, H⟩ := V
  obtain ⟨T', h', X', e', W, st⟩ := stI X hx hZ eT A (j := j) (x := x) (by rw [S]; exact hj) hg hs hd
  exact ⟨T', h', X', e', ⟨_, _, W⟩, IA.set A S H rfl W (Nat.lt_of_not_le fun q => hj (Or.inr q)), st⟩
theorem stJA (X : Stand p l e R s m args below meth c T locs cells slots) (hx : p.tables.exec = Jvm.exec) (hZ : Z.Warmed39 s.vm) (eT : T.heap = h) (V : JA Z h a n fJ) {j : Int32} {x : Int64} (hj : ¬ (j < 0 ∨ n ≤ j.toNatClampNeg)) {g : JFrame} (hg : g.method = m) {rest : List Value} (hs : g.stack = .long x :: .int j :: .ref a :: rest) (hd : decode c.code g.pc = .ok (.lastore, 1)) :
    ∃ T' h', Stand p l e R s m args below meth c T' (locs ++ [⟨a, j.toNatClampNeg⟩]) cells slots ∧ T'.heap = h' ∧ (∃ sl v, Wr h h' a sl v) ∧ JA Z h' a n (updJ fJ j.toNatClampNeg x) ∧ ∀ target, Steps p.tables e below (T'.setTop { g with pc := g.pc + 1, stack := rest }) target → Steps p.tables e below (T.setTop g) target := by
  obtain ⟨cl, A, S, H⟩ := V
  obtain ⟨T', h', X', e', W, st⟩ := stJ X hx hZ eT A (j := j) (x := x) (by rw [S]; exact hj) hg hs hd
  exact ⟨T', h', X', e', ⟨_, _, W⟩, JA.set A S H W (Nat.lt_of_not_le fun q => hj (Or.inr q)), st⟩
theorem ldBA (X : Stand p l e R s m args below meth c T locs cells slots) (hx : p.tables.exec = Jvm.exec) (hZ : Z.Warmed39 s.vm) (eT : T.heap = h) (V : IA Z h a .byte n f) {j : Int32} (hj : ¬ (j < 0 ∨ n ≤ j.toNatClampNeg)) {g : JFrame} (hg : g.method = m) {rest : List Value} (hs : g.stack = .int j :: .ref a :: rest) (hd : decode c.code g.pc = .ok (.baload, 1)) :
    ∀ target, Steps p.tables e below (T.setTop { g with pc := g.pc + 1, stack := .int (f j.toNatClampNeg) :: rest }) target → Steps p.tables e below (T.setTop g) target := by
  obtain ⟨cl, A, S, H⟩ := V
  exact X.baloadBytes hx (by rw [eT]; exact A.1) (State.isArrayOf_alike hZ.alike A.2.1) A.2.2 (by rw [S]; exact hj) (H _ (Nat.lt_of_not_le fun q => hj (Or.inr q))).1 hg hs hd
theorem ldIA (X : Stand p l e R s m args below meth c T locs cells slots) (hx : p.tables.exec = Jvm.exec) (hZ : Z.Warmed39 s.vm) (eT : T.heap = h) (V : IA Z h a .int n f) {j : Int32} (hj : ¬ (j < 0 ∨ n ≤ j.toNatClampNeg)) {g : JFrame} (hg : g.method = m) {rest : List Value} (hs : g.stack = .int j :: .ref a :: rest) (hd : decode c.code g.pc = .ok (.iaload, 1)) :
    ∀ target, Steps p.tables e below (T.setTop { g with pc := g.pc + 1, stack := .int (f j.toNatClampNeg) :: rest }) target → Steps p.tables e below (T.setTop g) target := by
  obtain ⟨cl, A, S, H⟩ := V
  exact X.iaload hx (by rw [eT]; exact A.1) (State.isArrayOf_alike hZ.alike A.2.1) A.2.2 (by rw [S]; exact hj) (H _ (Nat.lt_of_not_le fun q => hj (Or.inr q))).1 hg hs hd
theorem ldJA (X : Stand p l e R s m args below meth c T locs cells slots) (hx : p.tables.exec = Jvm.exec) (hZ : Z.Warmed39 s.vm) (eT : T.heap = h) (V : JA Z h a n fJ) {j : Int32} (hj : ¬ (j < 0 ∨ n ≤ j.toNatClampNeg)) {g : JFrame} (hg : g.method = m) {rest : List Value} (hs : g.stack = .int j :: .ref a :: rest) (hd : decode c.code g.pc = .ok (.laload, 1)) :
    ∀ target, Steps p.tables e below (T.setTop { g with pc := g.pc + 1, stack := .long (fJ j.toNatClampNeg) :: rest }) target → Steps p.tables e below (T.setTop g) target := by
  obtain ⟨cl, A, S, H⟩ := V
  exact X.laload hx (by rw [eT]; exact A.1) (State.isArrayOf_alike hZ.alike A.2.1) A.2.2 (by rw [S]; exact hj) (H _ (Nat.lt_of_not_le fun q => hj (Or.inr q))) hg hs hd
theorem lnIA (X : Stand p l e R s m args below meth c T locs cells slots) (hx : p.tables.exec = Jvm.exec) (hZ : Z.Warmed39 s.vm) (eT : T.heap = h) (V : IA Z h a ty n f) {z : Int32} (hz : n.toInt32 = z) {g : JFrame} (hg : g.method = m) {rest : List Value} (hs : g.stack = .ref a :: rest) (hd : decode c.code g.pc = .ok (.arraylength, 1)) :
    ∀ target, Steps p.tables e below (T.setTop { g with pc := g.pc + 1, stack := .int z :: rest }) target → Steps p.tables e below (T.setTop g) target := by
  obtain ⟨cl, A, S, H⟩ := V
  intro t k
  refine X.arraylength hx (by rw [eT]; exact A.1) (State.isArrayOf_alike hZ.alike A.2.1) hg hs hd t ?_
  rw [S, hz]; exact k
theorem lnJA (X : Stand p l e R s m args below meth c T locs cells slots) (hx : p.tables.exec = Jvm.exec) (hZ : Z.Warmed39 s.vm) (eT : T.heap = h) (V : JA Z h a n fJ) {z : Int32} (hz : n.toInt32 = z) {g : JFrame} (hg : g.method = m) {rest : List Value} (hs : g.stack = .ref a :: rest) (hd : decode c.code g.pc = .ok (.arraylength, 1)) :
    ∀ target, Steps p.tables e below (T.setTop { g with pc := g.pc + 1, stack := .int z :: rest }) target → Steps p.tables e below (T.setTop g) target := by
  obtain ⟨cl, A, S, H⟩ := V
  intro t k
  refine X.arraylength hx (by rw [eT]; exact A.1) (State.isArrayOf_alike hZ.alike A.2.1) hg hs hd t ?_
  rw [S, hz]; exact k
theorem retI (X : Stand p l e R s m args below meth c T locs cells slots) (hx : p.tables.exec = Jvm.exec) {pc : Nat} {Ls : Array Slot} {z : Int32} {rest : List Value} (hret : meth.sig.returnType = some .int) (hd : decode c.code pc = .ok (.ireturn, 1)) {fs : List Frame}
    (hl : ∀ (f : JFrame) (acts : List Action), f.method = m → f.locked = none → f.entered = [] → (doReturn e (T.setTop f) acts (some (.int z))).1 = T.setFrames fs) : Steps p.tables e below (T.setTop (mkF m pc Ls (.int z :: rest))) (T.setFrames fs) :=
  retOut X hx hret rfl (Or.inl ⟨rfl, Or.inl rfl, z, rfl⟩) hd hl
end Own
/-! numbers -/
theorem own_small {v : Int32} (n : Nat) (h0 : 0 ≤ v.toInt) (h1 : v.toInt < n) : ∃ k : Fin n, v = Int32.ofNat k.val := by
  refine ⟨⟨v.toInt.toNat, by omega⟩, ?_⟩
  apply Int32.toInt_inj.mp
  have := v.toInt_lt
  show v.toInt = (Int32.ofNat v.toInt.toNat).toInt
  rw [Int32.toInt_ofNat_of_lt (by omega)]
  omega
theorem own_mask31 (x : Int32) : 0 ≤ (x &&& (2147483647 : Int32)).toInt ∧ (x &&& (2147483647 : Int32)).toInt = x.toInt % 2147483648 := by
  have h : (x &&& (2147483647 : Int32)).toInt = x.toInt % (2 ^ 31 : Nat) := c_mask x 2147483647 31 (by decide) (by decide)
  omega
theorem own_mod (x : Int32) (d : Int32) (n : Nat) (hd : d.toInt = n) (hn : 0 < n) : ∃ k : Fin n, (x &&& (2147483647 : Int32)) % d = Int32.ofNat k.val := by
  apply own_small
  · rw [Int32.toInt_mod]; exact Int.tmod_nonneg _ (own_mask31 x).1
  · rw [Int32.toInt_mod, hd]; exact Int.tmod_lt_of_pos _ (by omega)
theorem own_ofNat_toInt {n : Nat} (h : n < 2147483648) : (Int32.ofNat n).toInt = n := Int32.toInt_ofNat_of_lt (by omega)
theorem own_ofNat_lt {a b : Nat} (ha : a < 2147483648) (hb : b < 2147483648) : Int32.ofNat a < Int32.ofNat b ↔ a < b := by
  rw [Int32.lt_iff_toInt_lt, own_ofNat_toInt ha, own_ofNat_toInt hb]; omega
theorem own_ofNat_nat {n : Nat} (h : n < 2147483648) : (Int32.ofNat n).toNatClampNeg = n := by
  show (Int32.ofNat n).toInt.toNat = n
  rw [own_ofNat_toInt h]; omega
theorem own_ofNat_in {n len : Nat} (h : n < len) (hl : len ≤ 2147483648) : ¬ (Int32.ofNat n < 0 ∨ len ≤ (Int32.ofNat n).toNatClampNeg) := by
  rw [own_ofNat_nat (by omega), Int32.lt_iff_toInt_lt, own_ofNat_toInt (by omega)]
  have e : (0 : Int32).toInt = 0 := by decide
  rw [e]; omega
theorem own_ofNat_succ (n : Nat) : Int32.ofNat n + 1 = Int32.ofNat (n + 1) := by rw [Int32.ofNat_add]; rfl
/-! arrays of references, statics over a Keep -/
def RA (Z : State) (h : Heap) (a : Addr) (n : Nat) (f : Nat → Value) : Prop := ∃ c : Cell, Arr Z h a c (.object "java/lang/Object") ∧ c.slots.size = n ∧ (∀ j, j < n → c.slots[j]? = some (f j)) ∧ Ovr Z c.cls "java/lang/Object"
def LA (Z : State) (h : Heap) (a : Addr) (n : Nat) : Prop := ∃ c : Cell, Arr Z h a c (.object "java/lang/Object") ∧ c.slots.size = n
def updV (f : Nat → Value) (i : Nat) (v : Value) : Nat → Value := fun j => if j = i then v else f j
def QV (h0 : Heap) (n0 : Nat) (v : Option Value) (h : Heap) (L : List Loc) : Prop := v = none ∧ Fr n0 L ∧ h = h0
section Own3
variable {p : Program} {l : Launch} {e : Env} {R : Room} {s : State} {m : MethodId} {args : Array Value} {below : List Frame} {meth : Method} {c : Code} {T : State} {locs : List Loc} {cells slots : Nat} {Z : State} {h h' : Heap} {a b y : Addr} {n : Nat} {f : Nat → Value} {sl : Nat} {v : Value} {wl : List Addr} {C nm d : String} {w : Value}
theorem RA.lt (F : RA Z h a n f) : a < h.size := by obtain ⟨c, A, -⟩ := F; exact A.lt
theorem RA.ext (F : RA Z h a n f) (E : Ext h h') : RA Z h' a n f := by obtain ⟨c, A, r⟩ := F; exact ⟨c, A.ext E, r⟩
theorem RA.other (F : RA Z h b n f) (W : Wr h h' a sl v) (q : b ≠ a) : RA Z h' b n f := by obtain ⟨c, A, r⟩ := F; exact ⟨c, A.other W q, r⟩
theorem RA.keep (F : RA Z h a n f) (K : Keep h h' wl) (q : a ∉ wl) : RA Z h' a n f := by obtain ⟨c, A, r⟩ := F; exact ⟨c, ⟨K.2.1 a c A.1 q, A.2⟩, r⟩
theorem LA.lt (F : LA Z h a n) : a < h.size := by obtain ⟨c, A, -⟩ := F; exact A.lt
theorem LA.ext (F : LA Z h a n) (E : Ext h h') : LA Z h' a n := by obtain ⟨c, A, r⟩ := F; exact ⟨c, A.ext E, r⟩
theorem LA.other (F : LA Z h b n) (W : Wr h h' a sl v) (q : b ≠ a) : LA Z h' b n := by obtain ⟨c, A, r⟩ := F; exact ⟨c, A.other W q, r⟩
theorem LA.keep (F : LA Z h a n) (K : Keep h h' wl) (q : a ∉ wl) : LA Z h' a n := by obtain ⟨c, A, r⟩ := F; exact ⟨c, ⟨K.2.1 a c A.1 q, A.2⟩, r⟩
theorem RA.new {k : ClassId} {z : Int32} (A : Arr Z h a (newA k (.object "java/lang/Object") z) (.object "java/lang/Object")) (O : Ovr Z k "java/lang/Object") (hz : z.toNatClampNeg = n) : RA Z h a n (fun _ => .null) := by
  refine ⟨_, A, by rw [sz_new, hz], fun j hj => ?_, O⟩
  have : j < z.toNatClampNeg := by rw [hz]; exact hj
  simp [newA, defaultValue, this]
theorem stRA (X : Stand p l e R s m args below meth c T locs cells slots) (hx : p.tables.exec = Jvm.exec) (hZ : Z.Warmed39 s.vm) (eT : T.heap = h) (V : RA Z h a n f) {j : Int32} (hj : ¬ (j < 0 ∨ n ≤ j.toNatClampNeg)) (I : Ins Z h y "java/lang/Object" true) {g : JFrame} (hg : g.method = m) {rest : List Value} (hs : g.stack = .ref y :: .int j :: .ref a :: rest) (hd : decode c.code g.pc = .ok (.aastore, 1)) :
    ∃ T' h', Stand p l e R s m args below meth c T' (locs ++ [⟨a, j.toNatClampNeg⟩]) cells slots ∧ T'.heap = h' ∧ (∃ sl v, Wr h h' a sl v) ∧ RA Z h' a n (updV f j.toNatClampNeg (.ref y)) ∧ ∀ target, Steps p.tables e below (T'.setTop { g with pc := g.pc + 1, stack := rest }) target → Steps p.tables e below (T.setTop g) target := by
  obtain ⟨cl, A, S, H, O⟩ := V
  obtain ⟨T', h', X', e', W, st⟩ := stR X hx hZ eT A (j := j) (v := .ref y) (by rw [S]; exact hj) rfl (Sto.of A O I) hg hs hd
  have hi : j.toNatClampNeg < n := Nat.lt_of_not_le fun q => hj (Or.inr q)
  refine ⟨T', h', X', e', ⟨_, _, W⟩, ⟨_, A.same W, by rw [sz_set, S], fun k hk => ?_, O⟩, st⟩
  unfold updV
  by_cases q : k = j.toNatClampNeg
  · subst q; simp [Cell.setSlot, S, hi]
  · rw [if_neg q, ← H k hk]
    show (cl.slots.setIfInBounds j.toNatClampNeg (.ref y))[k]? = _
    exact Array.getElem?_setIfInBounds_ne (Ne.symm q)
theorem ldRA (X : Stand p l e R s m args below meth c T locs cells slots) (hx : p.tables.exec = Jvm.exec) (hZ : Z.Warmed39 s.vm) (eT : T.heap = h) (V : RA Z h a n f) {j : Int32} (hj : ¬ (j < 0 ∨ n ≤ j.toNatClampNeg)) (hv : f j.toNatClampNeg = v) {g : JFrame} (hg : g.method = m) {rest : List Value} (hs : g.stack = .int j :: .ref a :: rest) (hd : decode c.code g.pc = .ok (.aaload, 1)) :
    ∀ target, Steps p.tables e below (T.setTop { g with pc := g.pc + 1, stack := v :: rest }) target → Steps p.tables e below (T.setTop g) target := by
  obtain ⟨cl, A, S, H, O⟩ := V
  exact X.aaload hx (by rw [eT]; exact A.1) (State.isArrayOf_alike hZ.alike A.2.1) rfl A.2.2 (by rw [S]; exact hj) (by rw [← hv]; exact H _ (Nat.lt_of_not_le fun q => hj (Or.inr q))) hg hs hd
theorem lnLA (X : Stand p l e R s m args below meth c T locs cells slots) (hx : p.tables.exec = Jvm.exec) (hZ : Z.Warmed39 s.vm) (eT : T.heap = h) (V : LA Z h a n) {z : Int32} (hz : n.toInt32 = z) {g : JFrame} (hg : g.method = m) {rest : List Value} (hs : g.stack = .ref a :: rest) (hd : decode c.code g.pc = .ok (.arraylength, 1)) :
    ∀ target, Steps p.tables e below (T.setTop { g with pc := g.pc + 1, stack := .int z :: rest }) target → Steps p.tables e below (T.setTop g) target := by
  obtain ⟨cl, A, S⟩ := V
  intro t k
  refine X.arraylength hx (by rw [eT]; exact A.1) (State.isArrayOf_alike hZ.alike A.2.1) hg hs hd t ?_
  rw [S, hz]; exact k
theorem RA.la (V : RA Z h a n f) : LA Z h a n := by obtain ⟨c, A, S, -⟩ := V; exact ⟨c, A, S⟩
theorem lnRA (X : Stand p l e R s m args below meth c T locs cells slots) (hx : p.tables.exec = Jvm.exec) (hZ : Z.Warmed39 s.vm) (eT : T.heap = h) (V : RA Z h a n f) {z : Int32} (hz : n.toInt32 = z) {g : JFrame} (hg : g.method = m) {rest : List Value} (hs : g.stack = .ref a :: rest) (hd : decode c.code g.pc = .ok (.arraylength, 1)) :
    ∀ target, Steps p.tables e below (T.setTop { g with pc := g.pc + 1, stack := .int z :: rest }) target → Steps p.tables e below (T.setTop g) target := lnLA X hx hZ eT V.la hz hg hs hd
theorem own_keepS (F : Sta Z h C nm d w) (K : Keep h h' wl) (q : ∀ x ∈ wl, ∀ cell : Cell, h[x]? = some cell → cell.vm.isStatics = false) : Sta Z h' C nm d w := by
  obtain ⟨cf, i, k, f, st, cell, h1, h2, h3, h4, h5, h6, h7⟩ := F
  refine ⟨cf, i, k, f, st, cell, h1, h2, h3, h4, K.2.1 st cell h5 (fun hm => ?_), h6, h7⟩
  rw [q st hm cell h5] at h6; cases h6
theorem own_plE (E : Exa Z h a C) : ∀ cell : Cell, h[a]? = some cell → cell.vm.isStatics = false := by
  obtain ⟨c, k, h1, -, -, h4, -⟩ := E
  intro cell hc; cases h1.symm.trans hc; exact h4
theorem own_plR (V : RA Z h a n f) : ∀ cell : Cell, h[a]? = some cell → cell.vm.isStatics = false := by
  obtain ⟨c, A, -⟩ := V
  intro cell hc; cases A.1.symm.trans hc; exact A.plain
end Own3
theorem gw {d : Jvm.Cond} (k : Nat) (h : tables_1[k]? = some d) : d ∈ tables_1 := List.mem_of_getElem? h
def NO (a b : Int32) : Prop := ¬ ((a ^^^ (a + b)) &&& (b ^^^ (a + b))) < (0 : Int32)
theorem own_m29 {p v : Int32} (h : v = (p &&& (536870911 : Int32))) : 0 ≤ v.toInt ∧ v.toInt < 536870912 := by
  have k : (p &&& (536870911 : Int32)).toInt = p.toInt % (2 ^ 29 : Nat) := c_mask p 536870911 29 (by decide) (by decide)
  rw [h]; omega
theorem own_add {a b : Int32} (h0 : 0 ≤ a.toInt) (h1 : a.toInt < 1610612736) (h2 : 0 ≤ b.toInt) (h3 : b.toInt < 536870912) : (a + b).toInt = a.toInt + b.toInt := Jvm.Free.XT.add32 ⟨by omega, by omega⟩
theorem own_noA {a b : Int32} (h0 : 0 ≤ a.toInt) (h1 : a.toInt < 1610612736) (h2 : 0 ≤ b.toInt) (h3 : b.toInt < 536870912) : NO a b := Jvm.Free.XT.addOk32 ⟨by omega, by omega⟩
theorem own_no0 {p1 v12 : Int32} (hv12 : v12 = (p1 &&& (536870911 : Int32))) : NO (0 : Int32) v12 := by
  have a := own_m29 hv12; have e : (0 : Int32).toInt = 0 := by decide
  exact own_noA (by omega) (by omega) a.1 a.2
theorem own_no1 {p1 p2 v12 v18 : Int32} (hv12 : v12 = (p1 &&& (536870911 : Int32))) (hv18 : v18 = (p2 &&& (536870911 : Int32))) : NO ((0 : Int32) + v12) v18 := by
  have a := own_m29 hv12; have b := own_m29 hv18
  rw [Int32.zero_add]
  exact own_noA (by omega) (by omega) b.1 b.2
theorem own_no2 {p1 p2 p3 v12 v18 v24 : Int32} (hv12 : v12 = (p1 &&& (536870911 : Int32))) (hv18 : v18 = (p2 &&& (536870911 : Int32))) (hv24 : v24 = (p3 &&& (536870911 : Int32))) : NO (((0 : Int32) + v12) + v18) v24 := by
  have a := own_m29 hv12; have b := own_m29 hv18; have d := own_m29 hv24
  rw [Int32.zero_add]
  have e := own_add (a := v12) (b := v18) (by omega) (by omega) b.1 b.2
  exact own_noA (by omega) (by omega) d.1 d.2
theorem own_no3 {p1 p2 p3 p4 v12 v18 v24 v31 : Int32} (hv12 : v12 = (p1 &&& (536870911 : Int32))) (hv18 : v18 = (p2 &&& (536870911 : Int32))) (hv24 : v24 = (p3 &&& (536870911 : Int32))) (hv31 : v31 = (p4 &&& (536870911 : Int32))) : NO ((((0 : Int32) + v12) + v18) + v24) v31 := by
  have a := own_m29 hv12; have b := own_m29 hv18; have d := own_m29 hv24; have g := own_m29 hv31
  rw [Int32.zero_add]
  have e := own_add (a := v12) (b := v18) (by omega) (by omega) b.1 b.2
  have k := own_add (a := v12 + v18) (b := v24) (by omega) (by omega) d.1 d.2
  exact own_noA (by omega) (by omega) g.1 g.2
theorem own_shape (x : Int32) : ((x &&& (7 : Int32)) % (5 : Int32)) = (0 : Int32) ∨ ((x &&& (7 : Int32)) % (5 : Int32)) = (1 : Int32) ∨ ((x &&& (7 : Int32)) % (5 : Int32)) = (2 : Int32) ∨ ((x &&& (7 : Int32)) % (5 : Int32)) = (3 : Int32) ∨ ((x &&& (7 : Int32)) % (5 : Int32)) = (4 : Int32) := by
  have k : (x &&& (7 : Int32)).toInt = x.toInt % (2 ^ 3 : Nat) := c_mask x 7 3 (by decide) (by decide)
  have e5 : (5 : Int32).toInt = 5 := by decide
  obtain ⟨i, hi⟩ := own_small (v := (x &&& (7 : Int32)) % (5 : Int32)) 5 (by rw [Int32.toInt_mod]; exact Int.tmod_nonneg _ (by omega)) (by rw [Int32.toInt_mod, e5]; exact Int.tmod_lt_of_pos _ (by omega))
  rw [hi]
  match i with
  | ⟨0, _⟩ => exact Or.inl rfl
  | ⟨1, _⟩ => exact Or.inr (Or.inl rfl)
  | ⟨2, _⟩ => exact Or.inr (Or.inr (Or.inl rfl))
  | ⟨3, _⟩ => exact Or.inr (Or.inr (Or.inr (Or.inl rfl)))
  | ⟨4, _⟩ => exact Or.inr (Or.inr (Or.inr (Or.inr rfl)))
theorem own_len0 {t : Term} {args : Array Value} {first s : State} {o : Option Outcome} {idx : List Nat} (h : (Term.length t).eval args first o idx s = some (.int 0)) :
    ∃ a cell, t.eval args first o idx s = some (.ref a) ∧ s.arrayAt? a = some cell ∧ cell.slots.size = 0 := by
  obtain ⟨a, cell, ev, hat, hv⟩ := Term.length_spec h
  refine ⟨a, cell, ev, hat, ?_⟩
  have hn : cell.slots.size < 2147483648 := Decidable.byContradiction fun q => by simp [Term.eval, ev, hat, q] at h
  have z : (Int32.ofNat cell.slots.size).toInt = (0 : Int32).toInt := congrArg Int32.toInt (Value.int.inj hv).symm
  have e : (0 : Int32).toInt = 0 := by decide
  rw [own_ofNat_toInt hn, e] at z
  omega
def QAbl (Z : State) (r0 : Addr) (u : Value) (wz : Int32) (h0 : Heap) (n0 : Nat) (v : Option Value) (h : Heap) (L : List Loc) : Prop := v = none ∧ Fr n0 L ∧ Keep h0 h [r0] ∧ Exa Z h r0 "java/util/ArrayList" ∧ Fld Z h r0 "java/util/AbstractList" "modCount" "I" (.int (0 : Int32)) ∧ Fld Z h r0 "java/util/ArrayList" "elementData" "[Ljava/lang/Object;" u ∧ Fld Z h r0 "java/util/ArrayList" "size" "I" (.int wz)
def QAli (Z : State) (r0 dce : Addr) (wz : Int32) (h0 : Heap) (n0 : Nat) (v : Option Value) (h : Heap) (L : List Loc) : Prop := v = none ∧ Fr n0 L ∧ Keep h0 h [r0] ∧ Exa Z h r0 "java/util/ArrayList" ∧ Fld Z h r0 "java/util/AbstractList" "modCount" "I" (.int (0 : Int32)) ∧ Fld Z h r0 "java/util/ArrayList" "elementData" "[Ljava/lang/Object;" (.ref dce) ∧ Fld Z h r0 "java/util/ArrayList" "size" "I" (.int wz)
def QSg (Z : State) (r0 : Addr) (p2 : Int32) (h0 : Heap) (n0 : Nat) (v : Option Value) (h : Heap) (L : List Loc) : Prop := v = none ∧ Fr n0 L ∧ Keep h0 h [r0] ∧ Exa Z h r0 "com/example/termwright/termwright/Commit$Segment" ∧ Fld Z h r0 "com/example/termwright/termwright/Commit$Segment" "documentCount" "I" (.int p2) ∧ Fld Z h r0 "com/example/termwright/termwright/Commit$Segment" "deletions" "Lcom/example/termwright/termwright/Commit$DeletionsFile;" .null
def QGr (Z : State) (r0 : Addr) (wz wm : Int32) (h0 : Heap) (n0 : Nat) (v : Option Value) (h : Heap) (L : List Loc) : Prop := ∃ b : Addr, v = some (.ref b) ∧ Fr n0 L ∧ Keep h0 h [r0] ∧ h0.size ≤ b ∧ Exa Z h r0 "java/util/ArrayList" ∧ Fld Z h r0 "java/util/AbstractList" "modCount" "I" (.int wm) ∧ Fld Z h r0 "java/util/ArrayList" "elementData" "[Ljava/lang/Object;" (.ref b) ∧ Fld Z h r0 "java/util/ArrayList" "size" "I" (.int wz) ∧ RA Z h b 10 (fun _ => .null)
def QAd (Z : State) (r0 r1 : Addr) (wm : Int32) (w : Option Value) (h0 : Heap) (n0 : Nat) (v : Option Value) (h : Heap) (L : List Loc) : Prop := ∃ b : Addr, v = w ∧ Fr n0 L ∧ Keep h0 h [r0] ∧ h0.size ≤ b ∧ Exa Z h r0 "java/util/ArrayList" ∧ Fld Z h r0 "java/util/AbstractList" "modCount" "I" (.int wm) ∧ Fld Z h r0 "java/util/ArrayList" "elementData" "[Ljava/lang/Object;" (.ref b) ∧ Fld Z h r0 "java/util/ArrayList" "size" "I" (.int (1 : Int32)) ∧ RA Z h b 10 (updV (fun _ => .null) 0 (.ref r1))
def QAe (Z : State) (r0 r1 r2 : Addr) (wm wk : Int32) (f : Nat → Value) (i : Nat) (w : Option Value) (h0 : Heap) (n0 : Nat) (v : Option Value) (h : Heap) (L : List Loc) : Prop := v = w ∧ Fr n0 L ∧ Keep h0 h [r0, r2] ∧ Exa Z h r0 "java/util/ArrayList" ∧ Fld Z h r0 "java/util/AbstractList" "modCount" "I" (.int wm) ∧ Fld Z h r0 "java/util/ArrayList" "elementData" "[Ljava/lang/Object;" (.ref r2) ∧ Fld Z h r0 "java/util/ArrayList" "size" "I" (.int wk) ∧ RA Z h r2 10 (updV f i (.ref r1))
theorem abc_d0 : decode jdk_22_method_1_code 0 = .ok (.aload_n 0, 1) := by decide +kernel
theorem abc_d1 : decode jdk_22_method_1_code 1 = .ok (.invokespecial 1, 3) := by decide +kernel
theorem abc_d4 : decode jdk_22_method_1_code 4 = .ok (.return_, 1) := by decide +kernel
theorem abc_pn : plainName "java/util/AbstractCollection" = true := by first | (simp [plainName, overriddenIn]; done) | decide +kernel
theorem abc_ef (m : MethodId) (x0 : Addr) : entryFrame m #[(.ref x0)] 1 = mkF m 0 #[.val (.ref x0)] [] := by first | (simp [entryFrame, mkF, argsToLocals, Value.category]; done) | rfl
set_option maxRecDepth 65536 in
set_option maxHeartbeats 40000000 in
theorem rm_abc (l : Launch) (Z : State) (a0 : Array Value) (hw : ∀ d ∈ tables_1, d.before a0 Z = true) (ws : List Jvm.Cond) (r0 : Addr) (h0 : Heap) (n0 : Nat) (Z0 : n0 ≤ h0.size) :
    MetFree l (⟨"java/util/AbstractCollection", "<init>", "()V"⟩ : MethodName) (head1 (Jvm.Cond.code (⟨"java/util/AbstractCollection", "<init>", "()V"⟩ : MethodName) jdk_22_method_1_code 1 none :: ws) ({ frames := 1, cells := 0, slots := 0, locals := 12 } : Room)) (fun a U => a = #[(.ref r0)] ∧ Z.Warmed39 U.vm ∧ U.heap = h0) (fun _ _ _ _ _ => True) (fun _ U o U' => ∃ v L, o = .returned v ∧ QV h0 n0 v U'.heap L ∧ FrameEnd U o U' L ({ frames := 1, cells := 0, slots := 0, locals := 12 } : Room).cells ({ frames := 1, cells := 0, slots := 0, locals := 12 } : Room).slots) := by
  refine MetFree.of_bodySF (plainFor_of_name abc_pn) hisR ?_
  intro p e s m args below meth c s₁ Bd hml0 hP hK
  obtain ⟨rfl, hZ, hh⟩ := hP
  have hx := Bd.exec
  have hby := Bd.bytes
  have hml : c.maxLocals = 1 := hml0
  have hown : s.vm.findClass "java/util/AbstractCollection" = some m.cls := findClass_of_methodNamed Bd.named
  have hnm := (name_of_methodNamed Bd.named Bd.method).1
  have X0 : Stand p l e ({ frames := 1, cells := 0, slots := 0, locals := 12 } : Room) s m #[(.ref r0)] below meth c s₁ [] 0 0 := Stand.of_body Bd
  have e0 : s₁.heap = h0 := by rw [← hh, Bd.state]; rfl
  have N0 := Fr.nil n0
  obtain ⟨P0, hP0⟩ : ∃ P0 : State → Prop, P0 = fun t => Steps p.tables e below (s₁.setTop (entryFrame m #[(.ref r0)] 1)) t := ⟨_, rfl⟩
  have K0 : ∀ t, Steps p.tables e below (s₁.setTop (mkF m 0 #[.val (.ref r0)] [])) t → P0 t := by
    intro t k; rw [hP0]; exact castTop (abc_ef m r0) k
  obtain ⟨T1, X1, e1, st1⟩ := initO X0 hx hZ hown (hw _ (gw 19 rfl)) (hw _ (gw 20 rfl)) (hw _ (gw 21 rfl)) e0 (g := (mkF m 1 #[.val (.ref r0)] [(.ref r0)])) rfl (by rw [hml]; rfl) rfl (hb hby abc_d1) (by decide) (W := 0) (by show 2 * 0 + _ ≤ _; exact Nat.le_of_eq rfl) (by decide)
  have K2 : ∀ t, Steps p.tables e below (T1.setTop (mkF m 4 #[.val (.ref r0)] [])) t → P0 t := by
    intro t kt
    refine K0 t ?_
    refine XS.aloadN X0.here hx rfl (hb hby abc_d0) rfl rfl ?_
    show Steps p.tables e below (s₁.setTop (mkF m 1 #[.val (.ref r0)] [(.ref r0)])) t
    refine st1 _ ?_
    exact kt
  obtain ⟨fs, hr, hrun, hended, hW, hsame⟩ := X1.leave (v := none) (fun _ => rfl)
  refine ⟨_, _, ?_, hrun, hended, _, _, rfl, ?_, ⟨_, rfl⟩, hW, hsame.mono (by decide) (by decide)⟩
  · skip
    have q := K2 _ (X1.returnOut hx Bd.returns (hb hby abc_d4) hr)
    rw [hP0] at q; exact q
  · show QV h0 n0 _ T1.heap _
    rw [e1]
    exact ⟨rfl, N0, rfl⟩
theorem abl_d0 : decode jdk_39_method_1_code 0 = .ok (.aload_n 0, 1) := by decide +kernel
theorem abl_d1 : decode jdk_39_method_1_code 1 = .ok (.invokespecial 1, 3) := by decide +kernel
theorem abl_d4 : decode jdk_39_method_1_code 4 = .ok (.aload_n 0, 1) := by decide +kernel
theorem abl_d5 : decode jdk_39_method_1_code 5 = .ok (.iconst 0, 1) := by decide +kernel
theorem abl_d6 : decode jdk_39_method_1_code 6 = .ok (.putfield 7, 3) := by decide +kernel
theorem abl_d9 : decode jdk_39_method_1_code 9 = .ok (.return_, 1) := by decide +kernel
theorem abl_pn : plainName "java/util/AbstractList" = true := by first | (simp [plainName, overriddenIn]; done) | decide +kernel
theorem abl_pd0 : parseMethodDescriptor "()V" = some ⟨[], none⟩ := by decide +kernel
theorem abl_ef (m : MethodId) (x0 : Addr) : entryFrame m #[(.ref x0)] 1 = mkF m 0 #[.val (.ref x0)] [] := by first | (simp [entryFrame, mkF, argsToLocals, Value.category]; done) | rfl
set_option maxRecDepth 65536 in
set_option maxHeartbeats 40000000 in
theorem rm_abl (l : Launch) (Z : State) (a0 : Array Value) (hw : ∀ d ∈ tables_1, d.before a0 Z = true) (ws : List Jvm.Cond) (r0 : Addr) (u um : Value) (wz : Int32) (h0 : Heap) (n0 : Nat) (Z0 : n0 ≤ h0.size) (H0 : Exa Z h0 r0 "java/util/ArrayList") (H1 : Fld Z h0 r0 "java/util/AbstractList" "modCount" "I" um) (H2 : Fld Z h0 r0 "java/util/ArrayList" "elementData" "[Ljava/lang/Object;" u) (H3 : Fld Z h0 r0 "java/util/ArrayList" "size" "I" (.int wz)) (g_r0 : n0 ≤ r0) :
    MetFree l (⟨"java/util/AbstractList", "<init>", "()V"⟩ : MethodName) (head1 (Jvm.Cond.code (⟨"java/util/AbstractList", "<init>", "()V"⟩ : MethodName) jdk_39_method_1_code 1 none :: ws) ({ frames := 2, cells := 0, slots := 0, locals := 24 } : Room)) (fun a U => a = #[(.ref r0)] ∧ Z.Warmed39 U.vm ∧ U.heap = h0) (fun _ _ _ _ _ => True) (fun _ U o U' => ∃ v L, o = .returned v ∧ QAbl Z r0 u wz h0 n0 v U'.heap L ∧ FrameEnd U o U' L ({ frames := 2, cells := 0, slots := 0, locals := 24 } : Room).cells ({ frames := 2, cells := 0, slots := 0, locals := 24 } : Room).slots) := by
  refine MetFree.of_bodySF (plainFor_of_name abl_pn) hisR ?_
  intro p e s m args below meth c s₁ Bd hml0 hP hK
  obtain ⟨rfl, hZ, hh⟩ := hP
  have hx := Bd.exec
  have hby := Bd.bytes
  have hml : c.maxLocals = 1 := hml0
  have hown : s.vm.findClass "java/util/AbstractList" = some m.cls := findClass_of_methodNamed Bd.named
  have hnm := (name_of_methodNamed Bd.named Bd.method).1
  have X0 : Stand p l e ({ frames := 2, cells := 0, slots := 0, locals := 24 } : Room) s m #[(.ref r0)] below meth c s₁ [] 0 0 := Stand.of_body Bd
  have e0 : s₁.heap = h0 := by rw [← hh, Bd.state]; rfl
  have N0 := Fr.nil n0
  obtain ⟨P0, hP0⟩ : ∃ P0 : State → Prop, P0 = fun t => Steps p.tables e below (s₁.setTop (entryFrame m #[(.ref r0)] 1)) t := ⟨_, rfl⟩
  have K0 : ∀ t, Steps p.tables e below (s₁.setTop (mkF m 0 #[.val (.ref r0)] [])) t → P0 t := by
    intro t k; rw [hP0]; exact castTop (abl_ef m r0) k
  obtain ⟨_, _, ⟨T1, L1, k1, n1⟩, -, X1, ⟨Lc1, hQ1, l1, y1, z1⟩, st1⟩ := X0.specialBack hx (y := (⟨"java/util/AbstractCollection", "<init>", "()V"⟩ : MethodName)) rfl hown (mvT hZ (hw _ (gw 13 rfl))) (mvT hZ (hw _ (gw 14 rfl))) (mvT hZ (hw _ (gw 18 rfl))) (by decide) (backOf (W := 0) (rm_abc l Z a0 hw [] r0 h0 n0 Z0 ) hZ (hw _ (gw 18 rfl)) (hw _ (gw 17 rfl)) (by decide) (by decide)) (g := (mkF m 1 #[.val (.ref r0)] [(.ref r0)])) rfl (by rw [hml]; rfl) (Steps.refl _) (a := r0) (argsL := []) (rest := []) (lenOf abl_pd0 rfl) rfl (by show 2 * 0 + _ ≤ _; exact Nat.le_of_eq rfl) (hb hby abl_d1) (fun _ _ => ⟨rfl, e0, (by decide : 0 + 0 ≤ _), (by decide : 0 + 0 ≤ _)⟩)
  dsimp only [Pt.U, Pt.locs, Pt.cells, Pt.slots] at X1 l1 y1 z1 st1 hQ1
  rw [l1, y1, z1] at X1
  obtain ⟨rfl, N1q, e1⟩ := hQ1
  have N1 := Fr.app N0 N1q
  obtain ⟨T2, h2, X2, e2, W2, st2⟩ := putF X1 hx hZ hown (host := "") (Or.inl (hw _ (gw 22 rfl))) Via.refl e1 H1 H0 (Or.inl (hw _ (gw 23 rfl))) (hw _ (gw 2 rfl)) (ty := .int) (by decide) rfl rfl (g := (mkF m 6 #[.val (.ref r0)] [(.int (0 : Int32)), (.ref r0)])) rfl rfl (hb hby abl_d6)
  have Z2 : n0 ≤ h2.size := Nat.le_trans Z0 (Keep.of_wr W2).1
  have N2 := Fr.snoc X2 N1 g_r0
  have F3 := Exa.wr W2 H0
  have F4 := Fld.other W2 H2 (Or.inr (slot_ne (Or.inl (hw _ (gw 26 rfl))) (Or.inl (hw _ (gw 23 rfl))) (by decide) (t := (.array (.object "java/lang/Object"))) (t' := .int) (by decide) (by decide)))
  have F5 := Fld.other W2 H3 (Or.inr (slot_ne (Or.inl (hw _ (gw 44 rfl))) (Or.inl (hw _ (gw 23 rfl))) (by decide) (t := .int) (t' := .int) (by decide) (by decide)))
  have Kp2 : Keep h0 h2 [r0] := (Keep.refl h0 [r0]).wr W2 (Or.inl (List.mem_of_getElem? (i := 0) rfl))
  have F6 : Fld Z h2 r0 "java/util/AbstractList" "modCount" "I" (.int (0 : Int32)) := Fld.same W2 H1
  have K7 : ∀ t, Steps p.tables e below (T2.setTop (mkF m 9 #[.val (.ref r0)] [])) t → P0 t := by
    intro t kt
    refine K0 t ?_
    refine XS.aloadN X0.here hx rfl (hb hby abl_d0) rfl rfl ?_
    show Steps p.tables e below (s₁.setTop (mkF m 1 #[.val (.ref r0)] [(.ref r0)])) t
    refine st1.trans ?_
    refine XS.aloadN X1.here hx rfl (hb hby abl_d4) rfl rfl ?_
    refine XS.iconst X1.here hx rfl (hb hby abl_d5) ?_
    show Steps p.tables e below (T1.setTop (mkF m 6 #[.val (.ref r0)] [(.int (0 : Int32)), (.ref r0)])) t
    refine st2 _ ?_
    exact kt
  obtain ⟨fs, hr, hrun, hended, hW, hsame⟩ := X2.leave (v := none) (fun _ => rfl)
  refine ⟨_, _, ?_, hrun, hended, _, _, rfl, ?_, ⟨_, rfl⟩, hW, hsame.mono (by decide) (by decide)⟩
  · skip
    have q := K7 _ (X2.returnOut hx Bd.returns (hb hby abl_d9) hr)
    rw [hP0] at q; exact q
  · show QAbl Z r0 u wz h0 n0 _ T2.heap _
    rw [e2]
    exact ⟨rfl, N2, Kp2, F3, F6, F4, F5⟩
theorem ali_d0 : decode jdk_38_method_2_code 0 = .ok (.aload_n 0, 1) := by decide +kernel
theorem ali_d1 : decode jdk_38_method_2_code 1 = .ok (.invokespecial 1, 3) := by decide +kernel
theorem ali_d4 : decode jdk_38_method_2_code 4 = .ok (.aload_n 0, 1) := by decide +kernel
theorem ali_d5 : decode jdk_38_method_2_code 5 = .ok (.getstatic 39, 3) := by decide +kernel
theorem ali_d8 : decode jdk_38_method_2_code 8 = .ok (.putfield 9, 3) := by decide +kernel
theorem ali_d11 : decode jdk_38_method_2_code 11 = .ok (.return_, 1) := by decide +kernel
theorem ali_pn : plainName "java/util/ArrayList" = true := by first | (simp [plainName, overriddenIn]; done) | decide +kernel
theorem ali_pd0 : parseMethodDescriptor "()V" = some ⟨[], none⟩ := by decide +kernel
theorem ali_ef (m : MethodId) (x0 : Addr) : entryFrame m #[(.ref x0)] 1 = mkF m 0 #[.val (.ref x0)] [] := by first | (simp [entryFrame, mkF, argsToLocals, Value.category]; done) | rfl
set_option maxRecDepth 65536 in
set_option maxHeartbeats 40000000 in
theorem rm_ali (l : Launch) (Z : State) (a0 : Array Value) (hw : ∀ d ∈ tables_1, d.before a0 Z = true) (ws : List Jvm.Cond) (r0 : Addr) (u um : Value) (wz : Int32) (dce : Addr) (h0 : Heap) (n0 : Nat) (Z0 : n0 ≤ h0.size) (H0 : Exa Z h0 r0 "java/util/ArrayList") (H1 : Fld Z h0 r0 "java/util/AbstractList" "modCount" "I" um) (H2 : Fld Z h0 r0 "java/util/ArrayList" "elementData" "[Ljava/lang/Object;" u) (H3 : Fld Z h0 r0 "java/util/ArrayList" "size" "I" (.int wz)) (H4 : Sta Z h0 "java/util/ArrayList" "DEFAULTCAPACITY_EMPTY_ELEMENTDATA" "[Ljava/lang/Object;" (.ref dce)) (g_r0 : n0 ≤ r0) :
    MetFree l (⟨"java/util/ArrayList", "<init>", "()V"⟩ : MethodName) (head1 (Jvm.Cond.code (⟨"java/util/ArrayList", "<init>", "()V"⟩ : MethodName) jdk_38_method_2_code 1 none :: ws) ({ frames := 3, cells := 0, slots := 0, locals := 36 } : Room)) (fun a U => a = #[(.ref r0)] ∧ Z.Warmed39 U.vm ∧ U.heap = h0) (fun _ _ _ _ _ => True) (fun _ U o U' => ∃ v L, o = .returned v ∧ QAli Z r0 dce wz h0 n0 v U'.heap L ∧ FrameEnd U o U' L ({ frames := 3, cells := 0, slots := 0, locals := 36 } : Room).cells ({ frames := 3, cells := 0, slots := 0, locals := 36 } : Room).slots) := by
  refine MetFree.of_bodySF (plainFor_of_name ali_pn) hisR ?_
  intro p e s m args below meth c s₁ Bd hml0 hP hK
  obtain ⟨rfl, hZ, hh⟩ := hP
  have hx := Bd.exec
  have hby := Bd.bytes
  have hml : c.maxLocals = 1 := hml0
  have hown : s.vm.findClass "java/util/ArrayList" = some m.cls := findClass_of_methodNamed Bd.named
  have hnm := (name_of_methodNamed Bd.named Bd.method).1
  have X0 : Stand p l e ({ frames := 3, cells := 0, slots := 0, locals := 36 } : Room) s m #[(.ref r0)] below meth c s₁ [] 0 0 := Stand.of_body Bd
  have e0 : s₁.heap = h0 := by rw [← hh, Bd.state]; rfl
  have N0 := Fr.nil n0
  obtain ⟨P0, hP0⟩ : ∃ P0 : State → Prop, P0 = fun t => Steps p.tables e below (s₁.setTop (entryFrame m #[(.ref r0)] 1)) t := ⟨_, rfl⟩
  have K0 : ∀ t, Steps p.tables e below (s₁.setTop (mkF m 0 #[.val (.ref r0)] [])) t → P0 t := by
    intro t k; rw [hP0]; exact castTop (ali_ef m r0) k
  obtain ⟨_, _, ⟨T1, L1, k1, n1⟩, -, X1, ⟨Lc1, hQ1, l1, y1, z1⟩, st1⟩ := X0.specialBack hx (y := (⟨"java/util/AbstractList", "<init>", "()V"⟩ : MethodName)) rfl hown (mvT hZ (hw _ (gw 7 rfl))) (mvT hZ (hw _ (gw 8 rfl))) (mvT hZ (hw _ (gw 12 rfl))) (by decide) (backOf (W := 0) (rm_abl l Z a0 hw [] r0 u um wz h0 n0 Z0 H0 H1 H2 H3 g_r0) hZ (hw _ (gw 12 rfl)) (hw _ (gw 11 rfl)) (by decide) (by decide)) (g := (mkF m 1 #[.val (.ref r0)] [(.ref r0)])) rfl (by rw [hml]; rfl) (Steps.refl _) (a := r0) (argsL := []) (rest := []) (lenOf ali_pd0 rfl) rfl (by show 2 * 0 + _ ≤ _; exact Nat.le_of_eq rfl) (hb hby ali_d1) (fun _ _ => ⟨rfl, e0, (by decide : 0 + 0 ≤ _), (by decide : 0 + 0 ≤ _)⟩)
  dsimp only [Pt.U, Pt.locs, Pt.cells, Pt.slots] at X1 l1 y1 z1 st1 hQ1
  rw [l1, y1, z1] at X1
  obtain ⟨h1, e1⟩ : ∃ z, T1.heap = z := ⟨_, rfl⟩
  rw [e1] at hQ1
  obtain ⟨rfl, N1q, Kq1, F2, F3, F4, F5⟩ := hQ1
  have N1 := Fr.app N0 N1q
  have Z1 : n0 ≤ h1.size := Nat.le_trans Z0 Kq1.1
  have F6 := own_keepS H4 Kq1 (allS (own_plE H0) all0)
  have Kp1 : Keep h0 h1 [r0] := (Keep.refl h0 [r0]).trans Kq1 (allS (Or.inl (List.mem_of_getElem? (i := 0) rfl)) all0)
  obtain ⟨T7, X7, e7, st7⟩ := getS2 X1 hx hZ hown (host := "") (Or.inl (hw _ (gw 24 rfl))) Via.refl e1 F6 (g := (mkF m 5 #[.val (.ref r0)] [(.ref r0)])) rfl (hb hby ali_d5)
  obtain ⟨T8, h8, X8, e8, W8, st8⟩ := putF X7 hx hZ hown (host := "") (Or.inl (hw _ (gw 25 rfl))) Via.refl e7 F4 F2 (Or.inl (hw _ (gw 26 rfl))) (hw _ (gw 2 rfl)) (ty := (.array (.object "java/lang/Object"))) (by decide) rfl rfl (g := (mkF m 8 #[.val (.ref r0)] [(.ref dce), (.ref r0)])) rfl rfl (hb hby ali_d8)
  have Z8 : n0 ≤ h8.size := Nat.le_trans Z1 (Keep.of_wr W8).1
  have N8 := Fr.snoc X8 N1 g_r0
  have F9 := Exa.wr W8 F2
  have F10 := Fld.other W8 F3 (Or.inr (slot_ne (Or.inl (hw _ (gw 23 rfl))) (Or.inl (hw _ (gw 26 rfl))) (by decide) (t := .int) (t' := (.array (.object "java/lang/Object"))) (by decide) (by decide)))
  have F11 := Fld.other W8 F5 (Or.inr (slot_ne (Or.inl (hw _ (gw 44 rfl))) (Or.inl (hw _ (gw 26 rfl))) (by decide) (t := .int) (t' := (.array (.object "java/lang/Object"))) (by decide) (by decide)))
  have F12 := Sta.wr W8 F6
  have Kp8 : Keep h0 h8 [r0] := Kp1.wr W8 (Or.inl (List.mem_of_getElem? (i := 0) rfl))
  have F13 : Fld Z h8 r0 "java/util/ArrayList" "elementData" "[Ljava/lang/Object;" (.ref dce) := Fld.same W8 F4
  have K14 : ∀ t, Steps p.tables e below (T8.setTop (mkF m 11 #[.val (.ref r0)] [])) t → P0 t := by
    intro t kt
    refine K0 t ?_
    refine XS.aloadN X0.here hx rfl (hb hby ali_d0) rfl rfl ?_
    show Steps p.tables e below (s₁.setTop (mkF m 1 #[.val (.ref r0)] [(.ref r0)])) t
    refine st1.trans ?_
    refine XS.aloadN X1.here hx rfl (hb hby ali_d4) rfl rfl ?_
    show Steps p.tables e below (T1.setTop (mkF m 5 #[.val (.ref r0)] [(.ref r0)])) t
    refine st7 _ ?_
    show Steps p.tables e below (T7.setTop (mkF m 8 #[.val (.ref r0)] [(.ref dce), (.ref r0)])) t
    refine st8 _ ?_
    exact kt
  obtain ⟨fs, hr, hrun, hended, hW, hsame⟩ := X8.leave (v := none) (fun _ => rfl)
  refine ⟨_, _, ?_, hrun, hended, _, _, rfl, ?_, ⟨_, rfl⟩, hW, hsame.mono (by decide) (by decide)⟩
  · skip
    have q := K14 _ (X8.returnOut hx Bd.returns (hb hby ali_d11) hr)
    rw [hP0] at q; exact q
  · show QAli Z r0 dce wz h0 n0 _ T8.heap _
    rw [e8]
    exact ⟨rfl, N8, Kp8, F9, F10, F13, F11⟩
theorem rec_d0 : decode jdk_30_method_1_code 0 = .ok (.aload_n 0, 1) := by decide +kernel
theorem rec_d1 : decode jdk_30_method_1_code 1 = .ok (.invokespecial 1, 3) := by decide +kernel
theorem rec_d4 : decode jdk_30_method_1_code 4 = .ok (.return_, 1) := by decide +kernel
theorem rec_pn : plainName "java/lang/Record" = true := by first | (simp [plainName, overriddenIn]; done) | decide +kernel
theorem rec_ef (m : MethodId) (x0 : Addr) : entryFrame m #[(.ref x0)] 1 = mkF m 0 #[.val (.ref x0)] [] := by first | (simp [entryFrame, mkF, argsToLocals, Value.category]; done) | rfl
set_option maxRecDepth 65536 in
set_option maxHeartbeats 40000000 in
theorem rm_rec (l : Launch) (Z : State) (a0 : Array Value) (hw : ∀ d ∈ tables_1, d.before a0 Z = true) (ws : List Jvm.Cond) (r0 : Addr) (h0 : Heap) (n0 : Nat) (Z0 : n0 ≤ h0.size) :
    MetFree l (⟨"java/lang/Record", "<init>", "()V"⟩ : MethodName) (head1 (Jvm.Cond.code (⟨"java/lang/Record", "<init>", "()V"⟩ : MethodName) jdk_30_method_1_code 1 none :: ws) ({ frames := 1, cells := 0, slots := 0, locals := 12 } : Room)) (fun a U => a = #[(.ref r0)] ∧ Z.Warmed39 U.vm ∧ U.heap = h0) (fun _ _ _ _ _ => True) (fun _ U o U' => ∃ v L, o = .returned v ∧ QV h0 n0 v U'.heap L ∧ FrameEnd U o U' L ({ frames := 1, cells := 0, slots := 0, locals := 12 } : Room).cells ({ frames := 1, cells := 0, slots := 0, locals := 12 } : Room).slots) := by
  refine MetFree.of_bodySF (plainFor_of_name rec_pn) hisR ?_
  intro p e s m args below meth c s₁ Bd hml0 hP hK
  obtain ⟨rfl, hZ, hh⟩ := hP
  have hx := Bd.exec
  have hby := Bd.bytes
  have hml : c.maxLocals = 1 := hml0
  have hown : s.vm.findClass "java/lang/Record" = some m.cls := findClass_of_methodNamed Bd.named
  have hnm := (name_of_methodNamed Bd.named Bd.method).1
  have X0 : Stand p l e ({ frames := 1, cells := 0, slots := 0, locals := 12 } : Room) s m #[(.ref r0)] below meth c s₁ [] 0 0 := Stand.of_body Bd
  have e0 : s₁.heap = h0 := by rw [← hh, Bd.state]; rfl
  have N0 := Fr.nil n0
  obtain ⟨P0, hP0⟩ : ∃ P0 : State → Prop, P0 = fun t => Steps p.tables e below (s₁.setTop (entryFrame m #[(.ref r0)] 1)) t := ⟨_, rfl⟩
  have K0 : ∀ t, Steps p.tables e below (s₁.setTop (mkF m 0 #[.val (.ref r0)] [])) t → P0 t := by
    intro t k; rw [hP0]; exact castTop (rec_ef m r0) k
  obtain ⟨T1, X1, e1, st1⟩ := initO X0 hx hZ hown (hw _ (gw 79 rfl)) (hw _ (gw 20 rfl)) (hw _ (gw 21 rfl)) e0 (g := (mkF m 1 #[.val (.ref r0)] [(.ref r0)])) rfl (by rw [hml]; rfl) rfl (hb hby rec_d1) (by decide) (W := 0) (by show 2 * 0 + _ ≤ _; exact Nat.le_of_eq rfl) (by decide)
  have K2 : ∀ t, Steps p.tables e below (T1.setTop (mkF m 4 #[.val (.ref r0)] [])) t → P0 t := by
    intro t kt
    refine K0 t ?_
    refine XS.aloadN X0.here hx rfl (hb hby rec_d0) rfl rfl ?_
    show Steps p.tables e below (s₁.setTop (mkF m 1 #[.val (.ref r0)] [(.ref r0)])) t
    refine st1 _ ?_
    exact kt
  obtain ⟨fs, hr, hrun, hended, hW, hsame⟩ := X1.leave (v := none) (fun _ => rfl)
  refine ⟨_, _, ?_, hrun, hended, _, _, rfl, ?_, ⟨_, rfl⟩, hW, hsame.mono (by decide) (by decide)⟩
  · skip
    have q := K2 _ (X1.returnOut hx Bd.returns (hb hby rec_d4) hr)
    rw [hP0] at q; exact q
  · show QV h0 n0 _ T1.heap _
    rw [e1]
    exact ⟨rfl, N0, rfl⟩
theorem sgf_d0 : decode prog_28_method_2_code 0 = .ok (.aload_n 0, 1) := by decide +kernel
theorem sgf_d1 : decode prog_28_method_2_code 1 = .ok (.invokespecial 1, 3) := by decide +kernel
theorem sgf_d4 : decode prog_28_method_2_code 4 = .ok (.aload_n 0, 1) := by decide +kernel
theorem sgf_d5 : decode prog_28_method_2_code 5 = .ok (.aload_n 1, 1) := by decide +kernel
theorem sgf_d6 : decode prog_28_method_2_code 6 = .ok (.putfield 7, 3) := by decide +kernel
theorem sgf_d9 : decode prog_28_method_2_code 9 = .ok (.aload_n 0, 1) := by decide +kernel
theorem sgf_d10 : decode prog_28_method_2_code 10 = .ok (.iload_n 2, 1) := by decide +kernel
theorem sgf_d11 : decode prog_28_method_2_code 11 = .ok (.putfield 13, 3) := by decide +kernel
theorem sgf_d14 : decode prog_28_method_2_code 14 = .ok (.aload_n 0, 1) := by decide +kernel
theorem sgf_d15 : decode prog_28_method_2_code 15 = .ok (.lload_n 3, 1) := by decide +kernel
theorem sgf_d16 : decode prog_28_method_2_code 16 = .ok (.putfield 17, 3) := by decide +kernel
theorem sgf_d19 : decode prog_28_method_2_code 19 = .ok (.aload_n 0, 1) := by decide +kernel
theorem sgf_d20 : decode prog_28_method_2_code 20 = .ok (.iload 5, 2) := by decide +kernel
theorem sgf_d22 : decode prog_28_method_2_code 22 = .ok (.putfield 21, 3) := by decide +kernel
theorem sgf_d25 : decode prog_28_method_2_code 25 = .ok (.aload_n 0, 1) := by decide +kernel
theorem sgf_d26 : decode prog_28_method_2_code 26 = .ok (.aload 6, 2) := by decide +kernel
theorem sgf_d28 : decode prog_28_method_2_code 28 = .ok (.putfield 24, 3) := by decide +kernel
theorem sgf_d31 : decode prog_28_method_2_code 31 = .ok (.return_, 1) := by decide +kernel
theorem sgf_pn : plainName "com/example/termwright/termwright/Commit$Segment" = true := by first | (simp [plainName, overriddenIn]; done) | decide +kernel
theorem sgf_pd0 : parseMethodDescriptor "()V" = some ⟨[], none⟩ := by decide +kernel
theorem sgf_ef (m : MethodId) (x0 : Addr) (x1 : Addr) (x2 : Int32) (x3 : Int64) (x4 : Int32) : entryFrame m #[(.ref x0), (.ref x1), (.int x2), (.long x3), (.int x4), .null] 7 = mkF m 0 #[.val (.ref x0), .val (.ref x1), .val (.int x2), .val (.long x3), .second, .val (.int x4), .val .null] [] := by first | (simp [entryFrame, mkF, argsToLocals, Value.category]; done) | rfl
set_option maxRecDepth 65536 in
set_option maxHeartbeats 40000000 in
theorem rm_sgf (l : Launch) (Z : State) (a0 : Array Value) (hw : ∀ d ∈ tables_1, d.before a0 Z = true) (ws : List Jvm.Cond) (r0 : Addr) (r1 : Addr) (p2 : Int32) (q3 : Int64) (p4 : Int32) (u0 u1 u2 u3 u4 : Value) (h0 : Heap) (n0 : Nat) (Z0 : n0 ≤ h0.size) (H0 : Exa Z h0 r0 "com/example/termwright/termwright/Commit$Segment") (H1 : Fld Z h0 r0 "com/example/termwright/termwright/Commit$Segment" "name" "Ljava/lang/String;" u0) (H2 : Fld Z h0 r0 "com/example/termwright/termwright/Commit$Segment" "documentCount" "I" u1) (H3 : Fld Z h0 r0 "com/example/termwright/termwright/Commit$Segment" "length" "J" u2) (H4 : Fld Z h0 r0 "com/example/termwright/termwright/Commit$Segment" "checksum" "I" u3) (H5 : Fld Z h0 r0 "com/example/termwright/termwright/Commit$Segment" "deletions" "Lcom/example/termwright/termwright/Commit$DeletionsFile;" u4) (g_r0 : n0 ≤ r0) :
    MetFree l (⟨"com/example/termwright/termwright/Commit$Segment", "<init>", "(Ljava/lang/String;IJILcom/example/termwright/termwright/Commit$DeletionsFile;)V"⟩ : MethodName) (head1 (Jvm.Cond.code (⟨"com/example/termwright/termwright/Commit$Segment", "<init>", "(Ljava/lang/String;IJILcom/example/termwright/termwright/Commit$DeletionsFile;)V"⟩ : MethodName) prog_28_method_2_code 7 none :: ws) ({ frames := 2, cells := 0, slots := 0, locals := 24 } : Room)) (fun a U => a = #[(.ref r0), (.ref r1), (.int p2), (.long q3), (.int p4), .null] ∧ Z.Warmed39 U.vm ∧ U.heap = h0) (fun _ _ _ _ _ => True) (fun _ U o U' => ∃ v L, o = .returned v ∧ QSg Z r0 p2 h0 n0 v U'.heap L ∧ FrameEnd U o U' L ({ frames := 2, cells := 0, slots := 0, locals := 24 } : Room).cells ({ frames := 2, cells := 0, slots := 0, locals := 24 } : Room).slots) := by
  refine MetFree.of_bodySF (plainFor_of_name sgf_pn) hisR ?_
  intro p e s m args below meth c s₁ Bd hml0 hP hK
  obtain ⟨rfl, hZ, hh⟩ := hP
  have hx := Bd.exec
  have hby := Bd.bytes
  have hml : c.maxLocals = 7 := hml0
  have hown : s.vm.findClass "com/example/termwright/termwright/Commit$Segment" = some m.cls := findClass_of_methodNamed Bd.named
  have hnm := (name_of_methodNamed Bd.named Bd.method).1
  have X0 : Stand p l e ({ frames := 2, cells := 0, slots := 0, locals := 24 } : Room) s m #[(.ref r0), (.ref r1), (.int p2), (.long q3), (.int p4), .null] below meth c s₁ [] 0 0 := Stand.of_body Bd
  have e0 : s₁.heap = h0 := by rw [← hh, Bd.state]; rfl
  have N0 := Fr.nil n0
  obtain ⟨P0, hP0⟩ : ∃ P0 : State → Prop, P0 = fun t => Steps p.tables e below (s₁.setTop (entryFrame m #[(.ref r0), (.ref r1), (.int p2), (.long q3), (.int p4), .null] 7)) t := ⟨_, rfl⟩
  have K0 : ∀ t, Steps p.tables e below (s₁.setTop (mkF m 0 #[.val (.ref r0), .val (.ref r1), .val (.int p2), .val (.long q3), .second, .val (.int p4), .val .null] [])) t → P0 t := by
    intro t k; rw [hP0]; exact castTop (sgf_ef m r0 r1 p2 q3 p4) k
  obtain ⟨_, _, ⟨T1, L1, k1, n1⟩, -, X1, ⟨Lc1, hQ1, l1, y1, z1⟩, st1⟩ := X0.specialBack hx (y := (⟨"java/lang/Record", "<init>", "()V"⟩ : MethodName)) rfl hown (mvT hZ (hw _ (gw 74 rfl))) (mvT hZ (hw _ (gw 75 rfl))) (mvT hZ (hw _ (gw 78 rfl))) (by decide) (backOf (W := 0) (rm_rec l Z a0 hw [] r0 h0 n0 Z0 ) hZ (hw _ (gw 78 rfl)) (hw _ (gw 77 rfl)) (by decide) (by decide)) (g := (mkF m 1 #[.val (.ref r0), .val (.ref r1), .val (.int p2), .val (.long q3), .second, .val (.int p4), .val .null] [(.ref r0)])) rfl (by rw [hml]; rfl) (Steps.refl _) (a := r0) (argsL := []) (rest := []) (lenOf sgf_pd0 rfl) rfl (by show 2 * 0 + _ ≤ _; exact Nat.le_of_eq rfl) (hb hby sgf_d1) (fun _ _ => ⟨rfl, e0, (by decide : 0 + 0 ≤ _), (by decide : 0 + 0 ≤ _)⟩)
  dsimp only [Pt.U, Pt.locs, Pt.cells, Pt.slots] at X1 l1 y1 z1 st1 hQ1
  rw [l1, y1, z1] at X1
  obtain ⟨rfl, N1q, e1⟩ := hQ1
  have N1 := Fr.app N0 N1q
  obtain ⟨T2, h2, X2, e2, W2, st2⟩ := putF X1 hx hZ hown (host := "") (Or.inl (hw _ (gw 80 rfl))) Via.refl e1 H1 H0 (Or.inr ⟨(hw _ (gw 81 rfl)), rfl, hnm⟩) (hw _ (gw 58 rfl)) (ty := (.object "java/lang/String")) (by decide) rfl rfl (g := (mkF m 6 #[.val (.ref r0), .val (.ref r1), .val (.int p2), .val (.long q3), .second, .val (.int p4), .val .null] [(.ref r1), (.ref r0)])) rfl rfl (hb hby sgf_d6)
  have Z2 : n0 ≤ h2.size := Nat.le_trans Z0 (Keep.of_wr W2).1
  have N2 := Fr.snoc X2 N1 g_r0
  have F3 := Exa.wr W2 H0
  have F4 := Fld.other W2 H2 (Or.inr (slot_ne (Or.inr (hw _ (gw 83 rfl))) (Or.inr (hw _ (gw 81 rfl))) (by decide) (t := .int) (t' := (.object "java/lang/String")) (by decide) (by decide)))
  have F5 := Fld.other W2 H3 (Or.inr (slot_ne (Or.inr (hw _ (gw 85 rfl))) (Or.inr (hw _ (gw 81 rfl))) (by decide) (t := .long) (t' := (.object "java/lang/String")) (by decide) (by decide)))
  have F6 := Fld.other W2 H4 (Or.inr (slot_ne (Or.inr (hw _ (gw 87 rfl))) (Or.inr (hw _ (gw 81 rfl))) (by decide) (t := .int) (t' := (.object "java/lang/String")) (by decide) (by decide)))
  have F7 := Fld.other W2 H5 (Or.inr (slot_ne (Or.inr (hw _ (gw 89 rfl))) (Or.inr (hw _ (gw 81 rfl))) (by decide) (t := (.object "com/example/termwright/termwright/Commit$DeletionsFile")) (t' := (.object "java/lang/String")) (by decide) (by decide)))
  have Kp2 : Keep h0 h2 [r0] := (Keep.refl h0 [r0]).wr W2 (Or.inl (List.mem_of_getElem? (i := 0) rfl))
  have F8 : Fld Z h2 r0 "com/example/termwright/termwright/Commit$Segment" "name" "Ljava/lang/String;" (.ref r1) := Fld.same W2 H1
  obtain ⟨T9, h9, X9, e9, W9, st9⟩ := putF X2 hx hZ hown (host := "") (Or.inl (hw _ (gw 82 rfl))) Via.refl e2 F4 F3 (Or.inr ⟨(hw _ (gw 83 rfl)), rfl, hnm⟩) (hw _ (gw 58 rfl)) (ty := .int) (by decide) rfl rfl (g := (mkF m 11 #[.val (.ref r0), .val (.ref r1), .val (.int p2), .val (.long q3), .second, .val (.int p4), .val .null] [(.int p2), (.ref r0)])) rfl rfl (hb hby sgf_d11)
  have Z9 : n0 ≤ h9.size := Nat.le_trans Z2 (Keep.of_wr W9).1
  have N9 := Fr.snoc X9 N2 g_r0
  have F10 := Exa.wr W9 F3
  have F11 := Fld.other W9 F8 (Or.inr (slot_ne (Or.inr (hw _ (gw 81 rfl))) (Or.inr (hw _ (gw 83 rfl))) (by decide) (t := (.object "java/lang/String")) (t' := .int) (by decide) (by decide)))
  have F12 := Fld.other W9 F5 (Or.inr (slot_ne (Or.inr (hw _ (gw 85 rfl))) (Or.inr (hw _ (gw 83 rfl))) (by decide) (t := .long) (t' := .int) (by decide) (by decide)))
  have F13 := Fld.other W9 F6 (Or.inr (slot_ne (Or.inr (hw _ (gw 87 rfl))) (Or.inr (hw _ (gw 83 rfl))) (by decide) (t := .int) (t' := .int) (by decide) (by decide)))
  have F14 := Fld.other W9 F7 (Or.inr (slot_ne (Or.inr (hw _ (gw 89 rfl))) (Or.inr (hw _ (gw 83 rfl))) (by decide) (t := (.object "com/example/termwright/termwright/Commit$DeletionsFile")) (t' := .int) (by decide) (by decide)))
  have Kp9 : Keep h0 h9 [r0] := Kp2.wr W9 (Or.inl (List.mem_of_getElem? (i := 0) rfl))
  have F15 : Fld Z h9 r0 "com/example/termwright/termwright/Commit$Segment" "documentCount" "I" (.int p2) := Fld.same W9 F4
  obtain ⟨T16, h16, X16, e16, W16, st16⟩ := putF X9 hx hZ hown (host := "") (Or.inl (hw _ (gw 84 rfl))) Via.refl e9 F12 F10 (Or.inr ⟨(hw _ (gw 85 rfl)), rfl, hnm⟩) (hw _ (gw 58 rfl)) (ty := .long) (by decide) rfl rfl (g := (mkF m 16 #[.val (.ref r0), .val (.ref r1), .val (.int p2), .val (.long q3), .second, .val (.int p4), .val .null] [(.long q3), (.ref r0)])) rfl rfl (hb hby sgf_d16)
  have Z16 : n0 ≤ h16.size := Nat.le_trans Z9 (Keep.of_wr W16).1
  have N16 := Fr.snoc X16 N9 g_r0
  have F17 := Exa.wr W16 F10
  have F18 := Fld.other W16 F11 (Or.inr (slot_ne (Or.inr (hw _ (gw 81 rfl))) (Or.inr (hw _ (gw 85 rfl))) (by decide) (t := (.object "java/lang/String")) (t' := .long) (by decide) (by decide)))
  have F19 := Fld.other W16 F15 (Or.inr (slot_ne (Or.inr (hw _ (gw 83 rfl))) (Or.inr (hw _ (gw 85 rfl))) (by decide) (t := .int) (t' := .long) (by decide) (by decide)))
  have F20 := Fld.other W16 F13 (Or.inr (slot_ne (Or.inr (hw _ (gw 87 rfl))) (Or.inr (hw _ (gw 85 rfl))) (by decide) (t := .int) (t' := .long) (by decide) (by decide)))
  have F21 := Fld.other W16 F14 (Or.inr (slot_ne (Or.inr (hw _ (gw 89 rfl))) (Or.inr (hw _ (gw 85 rfl))) (by decide) (t := (.object "com/example/termwright/termwright/Commit$DeletionsFile")) (t' := .long) (by decide) (by decide)))
  have Kp16 : Keep h0 h16 [r0] := Kp9.wr W16 (Or.inl (List.mem_of_getElem? (i := 0) rfl))
  have F22 : Fld Z h16 r0 "com/example/termwright/termwright/Commit$Segment" "length" "J" (.long q3) := Fld.same W16 F12
  obtain ⟨T23, h23, X23, e23, W23, st23⟩ := putF X16 hx hZ hown (host := "") (Or.inl (hw _ (gw 86 rfl))) Via.refl e16 F20 F17 (Or.inr ⟨(hw _ (gw 87 rfl)), rfl, hnm⟩) (hw _ (gw 58 rfl)) (ty := .int) (by decide) rfl rfl (g := (mkF m 22 #[.val (.ref r0), .val (.ref r1), .val (.int p2), .val (.long q3), .second, .val (.int p4), .val .null] [(.int p4), (.ref r0)])) rfl rfl (hb hby sgf_d22)
  have Z23 : n0 ≤ h23.size := Nat.le_trans Z16 (Keep.of_wr W23).1
  have N23 := Fr.snoc X23 N16 g_r0
  have F24 := Exa.wr W23 F17
  have F25 := Fld.other W23 F18 (Or.inr (slot_ne (Or.inr (hw _ (gw 81 rfl))) (Or.inr (hw _ (gw 87 rfl))) (by decide) (t := (.object "java/lang/String")) (t' := .int) (by decide) (by decide)))
  have F26 := Fld.other W23 F19 (Or.inr (slot_ne (Or.inr (hw _ (gw 83 rfl))) (Or.inr (hw _ (gw 87 rfl))) (by decide) (t := .int) (t' := .int) (by decide) (by decide)))
  have F27 := Fld.other W23 F22 (Or.inr (slot_ne (Or.inr (hw _ (gw 85 rfl))) (Or.inr (hw _ (gw 87 rfl))) (by decide) (t := .long) (t' := .int) (by decide) (by decide)))
  have F28 := Fld.other W23 F21 (Or.inr (slot_ne (Or.inr (hw _ (gw 89 rfl))) (Or.inr (hw _ (gw 87 rfl))) (by decide) (t := (.object "com/example/termwright/termwright/Commit$DeletionsFile")) (t' := .int) (by decide) (by decide)))
  have Kp23 : Keep h0 h23 [r0] := Kp16.wr W23 (Or.inl (List.mem_of_getElem? (i := 0) rfl))
  have F29 : Fld Z h23 r0 "com/example/termwright/termwright/Commit$Segment" "checksum" "I" (.int p4) := Fld.same W23 F20
  obtain ⟨T30, h30, X30, e30, W30, st30⟩ := putF X23 hx hZ hown (host := "") (Or.inl (hw _ (gw 88 rfl))) Via.refl e23 F28 F24 (Or.inr ⟨(hw _ (gw 89 rfl)), rfl, hnm⟩) (hw _ (gw 58 rfl)) (ty := (.object "com/example/termwright/termwright/Commit$DeletionsFile")) (by decide) rfl rfl (g := (mkF m 28 #[.val (.ref r0), .val (.ref r1), .val (.int p2), .val (.long q3), .second, .val (.int p4), .val .null] [.null, (.ref r0)])) rfl rfl (hb hby sgf_d28)
  have Z30 : n0 ≤ h30.size := Nat.le_trans Z23 (Keep.of_wr W30).1
  have N30 := Fr.snoc X30 N23 g_r0
  have F31 := Exa.wr W30 F24
  have F32 := Fld.other W30 F25 (Or.inr (slot_ne (Or.inr (hw _ (gw 81 rfl))) (Or.inr (hw _ (gw 89 rfl))) (by decide) (t := (.object "java/lang/String")) (t' := (.object "com/example/termwright/termwright/Commit$DeletionsFile")) (by decide) (by decide)))
  have F33 := Fld.other W30 F26 (Or.inr (slot_ne (Or.inr (hw _ (gw 83 rfl))) (Or.inr (hw _ (gw 89 rfl))) (by decide) (t := .int) (t' := (.object "com/example/termwright/termwright/Commit$DeletionsFile")) (by decide) (by decide)))
  have F34 := Fld.other W30 F27 (Or.inr (slot_ne (Or.inr (hw _ (gw 85 rfl))) (Or.inr (hw _ (gw 89 rfl))) (by decide) (t := .long) (t' := (.object "com/example/termwright/termwright/Commit$DeletionsFile")) (by decide) (by decide)))
  have F35 := Fld.other W30 F29 (Or.inr (slot_ne (Or.inr (hw _ (gw 87 rfl))) (Or.inr (hw _ (gw 89 rfl))) (by decide) (t := .int) (t' := (.object "com/example/termwright/termwright/Commit$DeletionsFile")) (by decide) (by decide)))
  have Kp30 : Keep h0 h30 [r0] := Kp23.wr W30 (Or.inl (List.mem_of_getElem? (i := 0) rfl))
  have F36 : Fld Z h30 r0 "com/example/termwright/termwright/Commit$Segment" "deletions" "Lcom/example/termwright/termwright/Commit$DeletionsFile;" .null := Fld.same W30 F28
  have K37 : ∀ t, Steps p.tables e below (T30.setTop (mkF m 31 #[.val (.ref r0), .val (.ref r1), .val (.int p2), .val (.long q3), .second, .val (.int p4), .val .null] [])) t → P0 t := by
    intro t kt
    refine K0 t ?_
    refine XS.aloadN X0.here hx rfl (hb hby sgf_d0) rfl rfl ?_
    show Steps p.tables e below (s₁.setTop (mkF m 1 #[.val (.ref r0), .val (.ref r1), .val (.int p2), .val (.long q3), .second, .val (.int p4), .val .null] [(.ref r0)])) t
    refine st1.trans ?_
    refine XS.aloadN X1.here hx rfl (hb hby sgf_d4) rfl rfl ?_
    refine XS.aloadN X1.here hx rfl (hb hby sgf_d5) rfl rfl ?_
    show Steps p.tables e below (T1.setTop (mkF m 6 #[.val (.ref r0), .val (.ref r1), .val (.int p2), .val (.long q3), .second, .val (.int p4), .val .null] [(.ref r1), (.ref r0)])) t
    refine st2 _ ?_
    refine XS.aloadN X2.here hx rfl (hb hby sgf_d9) rfl rfl ?_
    refine XS.iloadN X2.here hx rfl (hb hby sgf_d10) rfl ?_
    show Steps p.tables e below (T2.setTop (mkF m 11 #[.val (.ref r0), .val (.ref r1), .val (.int p2), .val (.long q3), .second, .val (.int p4), .val .null] [(.int p2), (.ref r0)])) t
    refine st9 _ ?_
    refine XS.aloadN X9.here hx rfl (hb hby sgf_d14) rfl rfl ?_
    show Steps p.tables e below (T9.setTop (mkF m 15 #[.val (.ref r0), .val (.ref r1), .val (.int p2), .val (.long q3), .second, .val (.int p4), .val .null] [(.ref r0)])) t
    refine XS.lloadN X9.here hx rfl (hb hby sgf_d15) rfl ?_
    show Steps p.tables e below (T9.setTop (mkF m 16 #[.val (.ref r0), .val (.ref r1), .val (.int p2), .val (.long q3), .second, .val (.int p4), .val .null] [(.long q3), (.ref r0)])) t
    refine st16 _ ?_
    refine XS.aloadN X16.here hx rfl (hb hby sgf_d19) rfl rfl ?_
    refine XS.iload X16.here hx rfl (hb hby sgf_d20) rfl ?_
    show Steps p.tables e below (T16.setTop (mkF m 22 #[.val (.ref r0), .val (.ref r1), .val (.int p2), .val (.long q3), .second, .val (.int p4), .val .null] [(.int p4), (.ref r0)])) t
    refine st23 _ ?_
    refine XS.aloadN X23.here hx rfl (hb hby sgf_d25) rfl rfl ?_
    refine XS.aload X23.here hx rfl (hb hby sgf_d26) rfl rfl ?_
    show Steps p.tables e below (T23.setTop (mkF m 28 #[.val (.ref r0), .val (.ref r1), .val (.int p2), .val (.long q3), .second, .val (.int p4), .val .null] [.null, (.ref r0)])) t
    refine st30 _ ?_
    exact kt
  obtain ⟨fs, hr, hrun, hended, hW, hsame⟩ := X30.leave (v := none) (fun _ => rfl)
  refine ⟨_, _, ?_, hrun, hended, _, _, rfl, ?_, ⟨_, rfl⟩, hW, hsame.mono (by decide) (by decide)⟩
  · skip
    have q := K37 _ (X30.returnOut hx Bd.returns (hb hby sgf_d31) hr)
    rw [hP0] at q; exact q
  · show QSg Z r0 p2 h0 n0 _ T30.heap _
    rw [e30]
    exact ⟨rfl, N30, Kp30, F31, F33, F36⟩
theorem sgo_d0 : decode prog_28_method_1_code 0 = .ok (.aload_n 0, 1) := by decide +kernel
theorem sgo_d1 : decode prog_28_method_1_code 1 = .ok (.aload_n 1, 1) := by decide +kernel
theorem sgo_d2 : decode prog_28_method_1_code 2 = .ok (.iload_n 2, 1) := by decide +kernel
theorem sgo_d3 : decode prog_28_method_1_code 3 = .ok (.lload_n 3, 1) := by decide +kernel
theorem sgo_d4 : decode prog_28_method_1_code 4 = .ok (.iload 5, 2) := by decide +kernel
theorem sgo_d6 : decode prog_28_method_1_code 6 = .ok (.aconst_null, 1) := by decide +kernel
theorem sgo_d7 : decode prog_28_method_1_code 7 = .ok (.invokespecial 28, 3) := by decide +kernel
theorem sgo_d10 : decode prog_28_method_1_code 10 = .ok (.return_, 1) := by decide +kernel
theorem sgo_pn : plainName "com/example/termwright/termwright/Commit$Segment" = true := by first | (simp [plainName, overriddenIn]; done) | decide +kernel
theorem sgo_pd0 : parseMethodDescriptor "(Ljava/lang/String;IJILcom/example/termwright/termwright/Commit$DeletionsFile;)V" = some ⟨[(.object "java/lang/String"), .int, .long, .int, (.object "com/example/termwright/termwright/Commit$DeletionsFile")], none⟩ := by decide +kernel
theorem sgo_ef (m : MethodId) (x0 : Addr) (x1 : Addr) (x2 : Int32) (x3 : Int64) (x4 : Int32) : entryFrame m #[(.ref x0), (.ref x1), (.int x2), (.long x3), (.int x4)] 6 = mkF m 0 #[.val (.ref x0), .val (.ref x1), .val (.int x2), .val (.long x3), .second, .val (.int x4)] [] := by first | (simp [entryFrame, mkF, argsToLocals, Value.category]; done) | rfl
set_option maxRecDepth 65536 in
set_option maxHeartbeats 40000000 in
theorem rm_sgo (l : Launch) (Z : State) (a0 : Array Value) (hw : ∀ d ∈ tables_1, d.before a0 Z = true) (ws : List Jvm.Cond) (r0 : Addr) (r1 : Addr) (p2 : Int32) (q3 : Int64) (p4 : Int32) (u0 u1 u2 u3 u4 : Value) (h0 : Heap) (n0 : Nat) (Z0 : n0 ≤ h0.size) (H0 : Exa Z h0 r0 "com/example/termwright/termwright/Commit$Segment") (H1 : Fld Z h0 r0 "com/example/termwright/termwright/Commit$Segment" "name" "Ljava/lang/String;" u0) (H2 : Fld Z h0 r0 "com/example/termwright/termwright/Commit$Segment" "documentCount" "I" u1) (H3 : Fld Z h0 r0 "com/example/termwright/termwright/Commit$Segment" "length" "J" u2) (H4 : Fld Z h0 r0 "com/example/termwright/termwright/Commit$Segment" "checksum" "I" u3) (H5 : Fld Z h0 r0 "com/example/termwright/termwright/Commit$Segment" "deletions" "Lcom/example/termwright/termwright/Commit$DeletionsFile;" u4) (g_r0 : n0 ≤ r0) :
    MetFree l (⟨"com/example/termwright/termwright/Commit$Segment", "<init>", "(Ljava/lang/String;IJI)V"⟩ : MethodName) (head1 (Jvm.Cond.code (⟨"com/example/termwright/termwright/Commit$Segment", "<init>", "(Ljava/lang/String;IJI)V"⟩ : MethodName) prog_28_method_1_code 6 none :: ws) ({ frames := 3, cells := 0, slots := 0, locals := 42 } : Room)) (fun a U => a = #[(.ref r0), (.ref r1), (.int p2), (.long q3), (.int p4)] ∧ Z.Warmed39 U.vm ∧ U.heap = h0) (fun _ _ _ _ _ => True) (fun _ U o U' => ∃ v L, o = .returned v ∧ QSg Z r0 p2 h0 n0 v U'.heap L ∧ FrameEnd U o U' L ({ frames := 3, cells := 0, slots := 0, locals := 42 } : Room).cells ({ frames := 3, cells := 0, slots := 0, locals := 42 } : Room).slots) := by
  refine MetFree.of_bodySF (plainFor_of_name sgo_pn) hisR ?_
  intro p e s m args below meth c s₁ Bd hml0 hP hK
  obtain ⟨rfl, hZ, hh⟩ := hP
  have hx := Bd.exec
  have hby := Bd.bytes
  have hml : c.maxLocals = 6 := hml0
  have hown : s.vm.findClass "com/example/termwright/termwright/Commit$Segment" = some m.cls := findClass_of_methodNamed Bd.named
  have hnm := (name_of_methodNamed Bd.named Bd.method).1
  have X0 : Stand p l e ({ frames := 3, cells := 0, slots := 0, locals := 42 } : Room) s m #[(.ref r0), (.ref r1), (.int p2), (.long q3), (.int p4)] below meth c s₁ [] 0 0 := Stand.of_body Bd
  have e0 : s₁.heap = h0 := by rw [← hh, Bd.state]; rfl
  have N0 := Fr.nil n0
  obtain ⟨P0, hP0⟩ : ∃ P0 : State → Prop, P0 = fun t => Steps p.tables e below (s₁.setTop (entryFrame m #[(.ref r0), (.ref r1), (.int p2), (.long q3), (.int p4)] 6)) t := ⟨_, rfl⟩
  have K0 : ∀ t, Steps p.tables e below (s₁.setTop (mkF m 0 #[.val (.ref r0), .val (.ref r1), .val (.int p2), .val (.long q3), .second, .val (.int p4)] [])) t → P0 t := by
    intro t k; rw [hP0]; exact castTop (sgo_ef m r0 r1 p2 q3 p4) k
  obtain ⟨_, _, ⟨T1, L1, k1, n1⟩, -, X1, ⟨Lc1, hQ1, l1, y1, z1⟩, st1⟩ := X0.specialBack hx (y := (⟨"com/example/termwright/termwright/Commit$Segment", "<init>", "(Ljava/lang/String;IJILcom/example/termwright/termwright/Commit$DeletionsFile;)V"⟩ : MethodName)) rfl hown (mvT hZ (hw _ (gw 71 rfl))) (mvT hZ (hw _ (gw 72 rfl))) (mvT hZ (hw _ (gw 73 rfl))) (by decide) (backOf (W := 0) (rm_sgf l Z a0 hw [] r0 r1 p2 q3 p4 _ _ _ _ _ h0 n0 Z0 H0 H1 H2 H3 H4 H5 g_r0) hZ (hw _ (gw 73 rfl)) (hw _ (gw 59 rfl)) (by decide) (by decide)) (g := (mkF m 7 #[.val (.ref r0), .val (.ref r1), .val (.int p2), .val (.long q3), .second, .val (.int p4)] [.null, (.int p4), (.long q3), (.int p2), (.ref r1), (.ref r0)])) rfl (by rw [hml]; rfl) (Steps.refl _) (a := r0) (argsL := [(.ref r1), (.int p2), (.long q3), (.int p4), .null]) (rest := []) (lenOf sgo_pd0 rfl) rfl (by show 2 * 0 + _ ≤ _; exact Nat.le_of_eq rfl) (hb hby sgo_d7) (fun _ _ => ⟨rfl, e0, (by decide : 0 + 0 ≤ _), (by decide : 0 + 0 ≤ _)⟩)
  dsimp only [Pt.U, Pt.locs, Pt.cells, Pt.slots] at X1 l1 y1 z1 st1 hQ1
  rw [l1, y1, z1] at X1
  obtain ⟨h1, e1⟩ : ∃ z, T1.heap = z := ⟨_, rfl⟩
  rw [e1] at hQ1
  obtain ⟨rfl, N1q, Kq1, F2, F3, F4⟩ := hQ1
  have N1 := Fr.app N0 N1q
  have Z1 : n0 ≤ h1.size := Nat.le_trans Z0 Kq1.1
  have Kp1 : Keep h0 h1 [r0] := (Keep.refl h0 [r0]).trans Kq1 (allS (Or.inl (List.mem_of_getElem? (i := 0) rfl)) all0)
  have K5 : ∀ t, Steps p.tables e below (T1.setTop (mkF m 10 #[.val (.ref r0), .val (.ref r1), .val (.int p2), .val (.long q3), .second, .val (.int p4)] [])) t → P0 t := by
    intro t kt
    refine K0 t ?_
    refine XS.aloadN X0.here hx rfl (hb hby sgo_d0) rfl rfl ?_
    refine XS.aloadN X0.here hx rfl (hb hby sgo_d1) rfl rfl ?_
    refine XS.iloadN X0.here hx rfl (hb hby sgo_d2) rfl ?_
    show Steps p.tables e below (s₁.setTop (mkF m 3 #[.val (.ref r0), .val (.ref r1), .val (.int p2), .val (.long q3), .second, .val (.int p4)] [(.int p2), (.ref r1), (.ref r0)])) t
    refine XS.lloadN X0.here hx rfl (hb hby sgo_d3) rfl ?_
    refine XS.iload X0.here hx rfl (hb hby sgo_d4) rfl ?_
    show Steps p.tables e below (s₁.setTop (mkF m 6 #[.val (.ref r0), .val (.ref r1), .val (.int p2), .val (.long q3), .second, .val (.int p4)] [(.int p4), (.long q3), (.int p2), (.ref r1), (.ref r0)])) t
    refine XS.aconstNull X0.here hx rfl (hb hby sgo_d6) ?_
    show Steps p.tables e below (s₁.setTop (mkF m 7 #[.val (.ref r0), .val (.ref r1), .val (.int p2), .val (.long q3), .second, .val (.int p4)] [.null, (.int p4), (.long q3), (.int p2), (.ref r1), (.ref r0)])) t
    refine st1.trans ?_
    exact kt
  obtain ⟨fs, hr, hrun, hended, hW, hsame⟩ := X1.leave (v := none) (fun _ => rfl)
  refine ⟨_, _, ?_, hrun, hended, _, _, rfl, ?_, ⟨_, rfl⟩, hW, hsame.mono (by decide) (by decide)⟩
  · skip
    have q := K5 _ (X1.returnOut hx Bd.returns (hb hby sgo_d10) hr)
    rw [hP0] at q; exact q
  · show QSg Z r0 p2 h0 n0 _ T1.heap _
    rw [e1]
    exact ⟨rfl, N1, Kp1, F2, F3, F4⟩
theorem max_d0 : decode jdk_29_method_65_code 0 = .ok (.iload_n 0, 1) := by decide +kernel
theorem max_d1 : decode jdk_29_method_65_code 1 = .ok (.iload_n 1, 1) := by decide +kernel
theorem max_d2 : decode jdk_29_method_65_code 2 = .ok (.if_icmp .lt 7, 3) := by decide +kernel
theorem max_d5 : decode jdk_29_method_65_code 5 = .ok (.iload_n 0, 1) := by decide +kernel
theorem max_d6 : decode jdk_29_method_65_code 6 = .ok (.goto 4, 3) := by decide +kernel
theorem max_d9 : decode jdk_29_method_65_code 9 = .ok (.iload_n 1, 1) := by decide +kernel
theorem max_d10 : decode jdk_29_method_65_code 10 = .ok (.ireturn, 1) := by decide +kernel
theorem max_ef (m : MethodId) (x0 : Int32) (x1 : Int32) : entryFrame m #[(.int x0), (.int x1)] 2 = mkF m 0 #[.val (.int x0), .val (.int x1)] [] := by first | (simp [entryFrame, mkF, argsToLocals, Value.category]; done) | rfl
def fMax (p0 : Int32) (p1 : Int32) : Int32 :=
  let j10_s0 : Int32 := (if p0 < p1 then p1 else p0)
  j10_s0
set_option maxRecDepth 65536 in
set_option maxHeartbeats 40000000 in
theorem rm_max (l : Launch) (Z : State) (a0 : Array Value) (hw : ∀ d ∈ tables_1, d.before a0 Z = true) (ws : List Jvm.Cond) (p0 : Int32) (p1 : Int32) (h0 : Heap) (n0 : Nat) (Z0 : n0 ≤ h0.size) :
    MetFree l (⟨"java/lang/Math", "max", "(II)I"⟩ : MethodName) (head1 (Jvm.Cond.code (⟨"java/lang/Math", "max", "(II)I"⟩ : MethodName) jdk_29_method_65_code 2 (some .int) :: ws) ({ frames := 0, cells := 0, slots := 0, locals := 0 } : Room)) (fun a U => a = #[(.int p0), (.int p1)] ∧ Z.Warmed39 U.vm ∧ U.heap = h0) (fun _ _ _ _ _ => True) (fun _ U o U' => ∃ v L, o = .returned v ∧ QP (.int (fMax p0 p1)) h0 n0 v U'.heap L ∧ FrameEnd U o U' L ({ frames := 0, cells := 0, slots := 0, locals := 0 } : Room).cells ({ frames := 0, cells := 0, slots := 0, locals := 0 } : Room).slots) := by
  refine MetFree.of_bodySF (Jvm.Free.JP.mathPlain rfl (by decide +kernel)) hisR ?_
  intro p e s m args below meth c s₁ Bd hml0 hP hK
  obtain ⟨rfl, hZ, hh⟩ := hP
  have hx := Bd.exec
  have hby := Bd.bytes
  have hml : c.maxLocals = 2 := hml0
  have hown : s.vm.findClass "java/lang/Math" = some m.cls := findClass_of_methodNamed Bd.named
  have hnm := (name_of_methodNamed Bd.named Bd.method).1
  have X0 : Stand p l e ({ frames := 0, cells := 0, slots := 0, locals := 0 } : Room) s m #[(.int p0), (.int p1)] below meth c s₁ [] 0 0 := Stand.of_body Bd
  have e0 : s₁.heap = h0 := by rw [← hh, Bd.state]; rfl
  have N0 := Fr.nil n0
  obtain ⟨P0, hP0⟩ : ∃ P0 : State → Prop, P0 = fun t => Steps p.tables e below (s₁.setTop (entryFrame m #[(.int p0), (.int p1)] 2)) t := ⟨_, rfl⟩
  have K0 : ∀ t, Steps p.tables e below (s₁.setTop (mkF m 0 #[.val (.int p0), .val (.int p1)] [])) t → P0 t := by
    intro t k; rw [hP0]; exact castTop (max_ef m p0 p1) k
  have K1 : ∀ t, Steps p.tables e below (s₁.setTop (mkF m 2 #[.val (.int p0), .val (.int p1)] [(.int p1), (.int p0)])) t → P0 t := by
    intro t kt
    refine K0 t ?_
    refine XS.iloadN X0.here hx rfl (hb hby max_d0) rfl ?_
    refine XS.iloadN X0.here hx rfl (hb hby max_d1) rfl ?_
    exact kt
  obtain ⟨j10_s0, hj10_s0, K4⟩ : ∃ (j10_s0 : Int32), j10_s0 = (if p0 < p1 then p1 else p0) ∧ ∀ t, Steps p.tables e below (s₁.setTop (mkF m 10 #[.val (.int p0), .val (.int p1)] [(.int j10_s0)])) t → P0 t := by
    by_cases hc2 : p0 < p1
    · have K2 : ∀ t, Steps p.tables e below (s₁.setTop (mkF m 10 #[.val (.int p0), .val (.int p1)] [(.int p1)])) t → P0 t := by
        intro t kt
        refine K1 t ?_
        refine XS.icmpYes X0.here hx rfl (pc0 := 2) (pc' := 9) rfl (hb hby max_d2) rfl (tlt hc2).1 (by decide) (by decide) ?_
        refine XS.iloadN X0.here hx rfl (hb hby max_d9) rfl ?_
        exact kt
      exact ⟨_, (if_pos hc2).symm, K2⟩
    · have K3 : ∀ t, Steps p.tables e below (s₁.setTop (mkF m 10 #[.val (.int p0), .val (.int p1)] [(.int p0)])) t → P0 t := by
        intro t kt
        refine K1 t ?_
        refine XS.icmpNo X0.here hx rfl (hb hby max_d2) rfl (flt hc2).1 ?_
        refine XS.iloadN X0.here hx rfl (hb hby max_d5) rfl ?_
        show Steps p.tables e below (s₁.setTop (mkF m 6 #[.val (.int p0), .val (.int p1)] [(.int p0)])) t
        refine XS.goto X0.here hx rfl (pc0 := 6) (pc' := 10) rfl (hb hby max_d6) (by decide) (by decide) ?_
        exact kt
      exact ⟨_, (if_neg hc2).symm, K3⟩
  obtain ⟨fs, hr, hrun, hended, hW, hsame⟩ := X0.leave (v := some (.int j10_s0)) (fun h => by rw [Bd.returns] at h; cases h)
  refine ⟨_, _, ?_, hrun, hended, _, _, rfl, ?_, ⟨_, rfl⟩, hW, hsame.mono (by decide) (by decide)⟩
  · skip
    have q := K4 _ (retI X0 hx Bd.returns (hb hby max_d10) hr)
    rw [hP0] at q; exact q
  · show QP (.int (fMax p0 p1)) h0 n0 _ s₁.heap _
    rw [e0]
    subst hj10_s0
    exact ⟨rfl, N0, rfl⟩
theorem gri_d0 : decode jdk_38_method_6_code 0 = .ok (.aload_n 0, 1) := by decide +kernel
theorem gri_d1 : decode jdk_38_method_6_code 1 = .ok (.getfield 9, 3) := by decide +kernel
theorem gri_d4 : decode jdk_38_method_6_code 4 = .ok (.arraylength, 1) := by decide +kernel
theorem gri_d5 : decode jdk_38_method_6_code 5 = .ok (.istore_n 2, 1) := by decide +kernel
theorem gri_d6 : decode jdk_38_method_6_code 6 = .ok (.iload_n 2, 1) := by decide +kernel
theorem gri_d7 : decode jdk_38_method_6_code 7 = .ok (.ifCond .gt 13, 3) := by decide +kernel
theorem gri_d10 : decode jdk_38_method_6_code 10 = .ok (.aload_n 0, 1) := by decide +kernel
theorem gri_d11 : decode jdk_38_method_6_code 11 = .ok (.getfield 9, 3) := by decide +kernel
theorem gri_d14 : decode jdk_38_method_6_code 14 = .ok (.getstatic 39, 3) := by decide +kernel
theorem gri_d17 : decode jdk_38_method_6_code 17 = .ok (.if_acmp .eq 28, 3) := by decide +kernel
theorem gri_d45 : decode jdk_38_method_6_code 45 = .ok (.aload_n 0, 1) := by decide +kernel
theorem gri_d46 : decode jdk_38_method_6_code 46 = .ok (.bipush 10, 2) := by decide +kernel
theorem gri_d48 : decode jdk_38_method_6_code 48 = .ok (.iload_n 1, 1) := by decide +kernel
theorem gri_d49 : decode jdk_38_method_6_code 49 = .ok (.invokestatic 79, 3) := by decide +kernel
theorem gri_d52 : decode jdk_38_method_6_code 52 = .ok (.anewarray 7, 3) := by decide +kernel
theorem gri_d55 : decode jdk_38_method_6_code 55 = .ok (.dup_x1, 1) := by decide +kernel
theorem gri_d56 : decode jdk_38_method_6_code 56 = .ok (.putfield 9, 3) := by decide +kernel
theorem gri_d59 : decode jdk_38_method_6_code 59 = .ok (.areturn, 1) := by decide +kernel
theorem gri_pn : plainName "java/util/ArrayList" = true := by first | (simp [plainName, overriddenIn]; done) | decide +kernel
theorem gri_pd0 : parseMethodDescriptor "(II)I" = some ⟨[.int, .int], some .int⟩ := by decide +kernel
theorem gri_ef (m : MethodId) (x0 : Addr) (x1 : Int32) : entryFrame m #[(.ref x0), (.int x1)] 4 = mkF m 0 #[.val (.ref x0), .val (.int x1), .unset, .unset] [] := by first | (simp [entryFrame, mkF, argsToLocals, Value.category]; done) | rfl
set_option maxRecDepth 65536 in
set_option maxHeartbeats 40000000 in
theorem rm_gri (l : Launch) (Z : State) (a0 : Array Value) (hw : ∀ d ∈ tables_1, d.before a0 Z = true) (ws : List Jvm.Cond) (r0 : Addr) (p1 : Int32) (wz wm : Int32) (dce : Addr) (h0 : Heap) (n0 : Nat) (Z0 : n0 ≤ h0.size) (H0 : Exa Z h0 r0 "java/util/ArrayList") (H1 : Fld Z h0 r0 "java/util/AbstractList" "modCount" "I" (.int wm)) (H2 : Fld Z h0 r0 "java/util/ArrayList" "elementData" "[Ljava/lang/Object;" (.ref dce)) (H3 : Fld Z h0 r0 "java/util/ArrayList" "size" "I" (.int wz)) (H4 : LA Z h0 dce 0) (H5 : Sta Z h0 "java/util/ArrayList" "DEFAULTCAPACITY_EMPTY_ELEMENTDATA" "[Ljava/lang/Object;" (.ref dce)) (g_r0 : n0 ≤ r0) (n_r0_dce : r0 ≠ dce) (hp1 : p1 = (1 : Int32)) :
    MetFree l (⟨"java/util/ArrayList", "grow", "(I)[Ljava/lang/Object;"⟩ : MethodName) (head1 (Jvm.Cond.code (⟨"java/util/ArrayList", "grow", "(I)[Ljava/lang/Object;"⟩ : MethodName) jdk_38_method_6_code 4 (some (.array (.object "java/lang/Object"))) :: ws) ({ frames := 1, cells := 1, slots := 10, locals := 14 } : Room)) (fun a U => a = #[(.ref r0), (.int p1)] ∧ Z.Warmed39 U.vm ∧ U.heap = h0) (fun _ _ _ _ _ => True) (fun _ U o U' => ∃ v L, o = .returned v ∧ QGr Z r0 wz wm h0 n0 v U'.heap L ∧ FrameEnd U o U' L ({ frames := 1, cells := 1, slots := 10, locals := 14 } : Room).cells ({ frames := 1, cells := 1, slots := 10, locals := 14 } : Room).slots) := by
  refine MetFree.of_bodySF (plainFor_of_name gri_pn) hisR ?_
  intro p e s m args below meth c s₁ Bd hml0 hP hK
  obtain ⟨rfl, hZ, hh⟩ := hP
  have hx := Bd.exec
  have hby := Bd.bytes
  have hml : c.maxLocals = 4 := hml0
  have hown : s.vm.findClass "java/util/ArrayList" = some m.cls := findClass_of_methodNamed Bd.named
  have hnm := (name_of_methodNamed Bd.named Bd.method).1
  have X0 : Stand p l e ({ frames := 1, cells := 1, slots := 10, locals := 14 } : Room) s m #[(.ref r0), (.int p1)] below meth c s₁ [] 0 0 := Stand.of_body Bd
  have e0 : s₁.heap = h0 := by rw [← hh, Bd.state]; rfl
  have N0 := Fr.nil n0
  obtain ⟨P0, hP0⟩ : ∃ P0 : State → Prop, P0 = fun t => Steps p.tables e below (s₁.setTop (entryFrame m #[(.ref r0), (.int p1)] 4)) t := ⟨_, rfl⟩
  have K0 : ∀ t, Steps p.tables e below (s₁.setTop (mkF m 0 #[.val (.ref r0), .val (.int p1), .unset, .unset] [])) t → P0 t := by
    intro t k; rw [hP0]; exact castTop (gri_ef m r0 p1) k
  obtain ⟨T1, X1, e1, st1⟩ := getF X0 hx hZ hown (host := "") (Or.inl (hw _ (gw 25 rfl))) Via.refl e0 H2 (g := (mkF m 1 #[.val (.ref r0), .val (.int p1), .unset, .unset] [(.ref r0)])) rfl rfl (hb hby gri_d1)
  obtain ⟨T2, X2, e2, st2⟩ := getF X1 hx hZ hown (host := "") (Or.inl (hw _ (gw 25 rfl))) Via.refl e1 H2 (g := (mkF m 11 #[.val (.ref r0), .val (.int p1), .val (.int (0 : Int32)), .unset] [(.ref r0)])) rfl rfl (hb hby gri_d11)
  obtain ⟨T3, X3, e3, st3⟩ := getS2 X2 hx hZ hown (host := "") (Or.inl (hw _ (gw 24 rfl))) Via.refl e2 H5 (g := (mkF m 14 #[.val (.ref r0), .val (.int p1), .val (.int (0 : Int32)), .unset] [(.ref dce)])) rfl (hb hby gri_d14)
  obtain ⟨_, _, ⟨T4, L4, k4, n4⟩, -, X4, ⟨Lc4, hQ4, l4, y4, z4⟩, st4⟩ := Jvm.LawKit.callS X3 hx (y := (⟨"java/lang/Math", "max", "(II)I"⟩ : MethodName)) hown (mvT hZ (hw _ (gw 112 rfl))) (mvT hZ (hw _ (gw 113 rfl))) (mvT hZ (hw _ (gw 114 rfl))) (mvT hZ (hw _ (gw 115 rfl))) (by decide) (backOf (W := 1) (rm_max l Z a0 hw [] (10 : Int32) p1 h0 n0 Z0 ) hZ (hw _ (gw 115 rfl)) (hw _ (gw 114 rfl)) (by decide) (by decide)) (g := (mkF m 49 #[.val (.ref r0), .val (.int p1), .val (.int (0 : Int32)), .unset] [(.int p1), (.int (10 : Int32)), (.ref r0)])) rfl (by rw [hml]; rfl) (argsL := [(.int (10 : Int32)), (.int p1)]) (rest := [(.ref r0)]) (lenOf gri_pd0 rfl) rfl (by show 2 * 0 + _ ≤ _; exact Nat.le_of_eq rfl) (hb hby gri_d49) (fun _ _ => ⟨rfl, e3, (by decide : 0 + 0 ≤ _), (by decide : 0 + 0 ≤ _)⟩)
  dsimp only [Pt.U, Pt.locs, Pt.cells, Pt.slots] at X4 l4 y4 z4 st4 hQ4
  rw [l4, y4, z4] at X4
  obtain ⟨rfl, N4q, e4⟩ := hQ4
  have N4 := Fr.app N0 N4q
  obtain ⟨T5, h5, k5, X5, e5, E5, A5, O5, st5⟩ := newR X4 hx hZ hown (hw _ (gw 116 rfl)) (hw _ (gw 117 rfl)) e4 (g := (mkF m 52 #[.val (.ref r0), .val (.int p1), .val (.int (0 : Int32)), .unset] [(.int (fMax (10 : Int32) p1)), (.ref r0)])) rfl (hb hby gri_d52) rfl (by rw [hp1]; decide) (cap := 10) (by rw [hp1]; decide) (by decide) (by decide) (by decide)
  obtain ⟨b52, g5⟩ : ∃ z, z = h0.size := ⟨_, rfl⟩
  have g_b52 : n0 ≤ b52 := Nat.le_trans Z0 (Nat.le_of_eq g5.symm)
  have ne_r0_b52 : r0 ≠ b52 := Nat.ne_of_lt (Nat.lt_of_lt_of_le H0.lt (Nat.le_of_eq g5.symm))
  have ne_dce_b52 : dce ≠ b52 := Nat.ne_of_lt (Nat.lt_of_lt_of_le H4.lt (Nat.le_of_eq g5.symm))
  rw [← g5] at A5 st5
  have sz_b52 : h0.size ≤ b52 := Nat.le_trans (Keep.refl h0 [r0]).1 (Nat.le_of_eq g5.symm)
  have Z5 : n0 ≤ h5.size := Nat.le_trans Z0 E5.1
  have F6 := Exa.ext E5 H0
  have F7 := Fld.ext E5 H1
  have F8 := Fld.ext E5 H2
  have F9 := Fld.ext E5 H3
  have F10 := H4.ext E5
  have F11 := Sta.ext E5 H5
  have V5 : RA Z h5 b52 10 (fun _ => .null) := RA.new A5 O5 (by rw [hp1]; decide)
  have Kp5 : Keep h0 h5 [r0] := (Keep.refl h0 [r0]).ext E5
  obtain ⟨T12, h12, X12, e12, W12, st12⟩ := putF X5 hx hZ hown (host := "") (Or.inl (hw _ (gw 25 rfl))) Via.refl e5 F8 F6 (Or.inl (hw _ (gw 26 rfl))) (hw _ (gw 2 rfl)) (ty := (.array (.object "java/lang/Object"))) (by decide) rfl rfl (g := (mkF m 56 #[.val (.ref r0), .val (.int p1), .val (.int (0 : Int32)), .unset] [(.ref b52), (.ref r0), (.ref b52)])) rfl rfl (hb hby gri_d56)
  have Z12 : n0 ≤ h12.size := Nat.le_trans Z5 (Keep.of_wr W12).1
  have N12 := Fr.snoc X12 N4 g_r0
  have F13 := Exa.wr W12 F6
  have F14 := Fld.other W12 F7 (Or.inr (slot_ne (Or.inl (hw _ (gw 23 rfl))) (Or.inl (hw _ (gw 26 rfl))) (by decide) (t := .int) (t' := (.array (.object "java/lang/Object"))) (by decide) (by decide)))
  have F15 := Fld.other W12 F9 (Or.inr (slot_ne (Or.inl (hw _ (gw 44 rfl))) (Or.inl (hw _ (gw 26 rfl))) (by decide) (t := .int) (t' := (.array (.object "java/lang/Object"))) (by decide) (by decide)))
  have F16 := F10.other W12 (Ne.symm n_r0_dce)
  have F17 := Sta.wr W12 F11
  have F18 := V5.other W12 (Ne.symm ne_r0_b52)
  have Kp12 : Keep h0 h12 [r0] := Kp5.wr W12 (Or.inl (List.mem_of_getElem? (i := 0) rfl))
  have F19 : Fld Z h12 r0 "java/util/ArrayList" "elementData" "[Ljava/lang/Object;" (.ref b52) := Fld.same W12 F8
  have K20 : ∀ t, Steps p.tables e below (T12.setTop (mkF m 59 #[.val (.ref r0), .val (.int p1), .val (.int (0 : Int32)), .unset] [(.ref b52)])) t → P0 t := by
    intro t kt
    refine K0 t ?_
    refine XS.aloadN X0.here hx rfl (hb hby gri_d0) rfl rfl ?_
    show Steps p.tables e below (s₁.setTop (mkF m 1 #[.val (.ref r0), .val (.int p1), .unset, .unset] [(.ref r0)])) t
    refine st1 _ ?_
    show Steps p.tables e below (T1.setTop (mkF m 4 #[.val (.ref r0), .val (.int p1), .unset, .unset] [(.ref dce)])) t
    refine lnLA X1 hx hZ e1 H4 (z := (0 : Int32)) (by decide) (g := (mkF m 4 #[.val (.ref r0), .val (.int p1), .unset, .unset] [(.ref dce)])) rfl rfl (hb hby gri_d4) _ ?_
    show Steps p.tables e below (T1.setTop (mkF m 5 #[.val (.ref r0), .val (.int p1), .unset, .unset] [(.int (0 : Int32))])) t
    refine XS.istoreN X1.here hx rfl (hb hby gri_d5) rfl (l' := #[.val (.ref r0), .val (.int p1), .val (.int (0 : Int32)), .unset]) rfl ?_
    refine XS.iloadN X1.here hx rfl (hb hby gri_d6) rfl ?_
    show Steps p.tables e below (T1.setTop (mkF m 7 #[.val (.ref r0), .val (.int p1), .val (.int (0 : Int32)), .unset] [(.int (0 : Int32))])) t
    refine XS.ifNo X1.here hx rfl (hb hby gri_d7) rfl ((if0 _ _).trans (flt (by decide)).2.2.1) ?_
    refine XS.aloadN X1.here hx rfl (hb hby gri_d10) rfl rfl ?_
    show Steps p.tables e below (T1.setTop (mkF m 11 #[.val (.ref r0), .val (.int p1), .val (.int (0 : Int32)), .unset] [(.ref r0)])) t
    refine st2 _ ?_
    show Steps p.tables e below (T2.setTop (mkF m 14 #[.val (.ref r0), .val (.int p1), .val (.int (0 : Int32)), .unset] [(.ref dce)])) t
    refine st3 _ ?_
    show Steps p.tables e below (T3.setTop (mkF m 17 #[.val (.ref r0), .val (.int p1), .val (.int (0 : Int32)), .unset] [(.ref dce), (.ref dce)])) t
    refine Jvm.RoadKit.acmp (g := (mkF m 17 #[.val (.ref r0), .val (.int p1), .val (.int (0 : Int32)), .unset] [(.ref dce), (.ref dce)])) X3 hx rfl rfl rfl (pc0 := 17) (pc' := 45) (same := true) rfl (hb hby gri_d17) rfl (decide_eq_true rfl) (by decide) (by decide) ?_
    refine XS.aloadN X3.here hx rfl (hb hby gri_d45) rfl rfl ?_
    refine XS.bipush X3.here hx rfl (hb hby gri_d46) ?_
    refine XS.iloadN X3.here hx rfl (hb hby gri_d48) rfl ?_
    show Steps p.tables e below (T3.setTop (mkF m 49 #[.val (.ref r0), .val (.int p1), .val (.int (0 : Int32)), .unset] [(.int p1), (.int (10 : Int32)), (.ref r0)])) t
    refine st4 _ ?_
    show Steps p.tables e below (T4.setTop (mkF m 52 #[.val (.ref r0), .val (.int p1), .val (.int (0 : Int32)), .unset] [(.int (fMax (10 : Int32) p1)), (.ref r0)])) t
    refine st5 _ ?_
    show Steps p.tables e below (T5.setTop (mkF m 55 #[.val (.ref r0), .val (.int p1), .val (.int (0 : Int32)), .unset] [(.ref b52), (.ref r0)])) t
    refine XS.dupX1 X5.here hx rfl (hb hby gri_d55) rfl rfl rfl ?_
    show Steps p.tables e below (T5.setTop (mkF m 56 #[.val (.ref r0), .val (.int p1), .val (.int (0 : Int32)), .unset] [(.ref b52), (.ref r0), (.ref b52)])) t
    refine st12 _ ?_
    exact kt
  obtain ⟨fs, hr, hrun, hended, hW, hsame⟩ := X12.leave (v := some (.ref b52)) (fun h => by rw [Bd.returns] at h; cases h)
  refine ⟨_, _, ?_, hrun, hended, _, _, rfl, ?_, ⟨_, rfl⟩, hW, hsame.mono (by decide) (by decide)⟩
  · skip
    have q := K20 _ (retOut X12 hx Bd.returns rfl (Or.inr (Or.inr (Or.inr (Or.inr ⟨rfl, rfl, rfl⟩)))) (hb hby gri_d59) hr)
    rw [hP0] at q; exact q
  · show QGr Z r0 wz wm h0 n0 _ T12.heap _
    rw [e12]
    exact ⟨b52, rfl, N12, Kp12, sz_b52, F13, F14, F19, F15, F18⟩
theorem grz_d0 : decode jdk_38_method_7_code 0 = .ok (.aload_n 0, 1) := by decide +kernel
theorem grz_d1 : decode jdk_38_method_7_code 1 = .ok (.aload_n 0, 1) := by decide +kernel
theorem grz_d2 : decode jdk_38_method_7_code 2 = .ok (.getfield 48, 3) := by decide +kernel
theorem grz_d5 : decode jdk_38_method_7_code 5 = .ok (.iconst 1, 1) := by decide +kernel
theorem grz_d6 : decode jdk_38_method_7_code 6 = .ok (.iadd, 1) := by decide +kernel
theorem grz_d7 : decode jdk_38_method_7_code 7 = .ok (.invokevirtual 69, 3) := by decide +kernel
theorem grz_d10 : decode jdk_38_method_7_code 10 = .ok (.areturn, 1) := by decide +kernel
theorem grz_pn : plainName "java/util/ArrayList" = true := by first | (simp [plainName, overriddenIn]; done) | decide +kernel
theorem grz_pd0 : parseMethodDescriptor "(I)[Ljava/lang/Object;" = some ⟨[.int], some (.array (.object "java/lang/Object"))⟩ := by decide +kernel
theorem grz_ef (m : MethodId) (x0 : Addr) : entryFrame m #[(.ref x0)] 1 = mkF m 0 #[.val (.ref x0)] [] := by first | (simp [entryFrame, mkF, argsToLocals, Value.category]; done) | rfl
set_option maxRecDepth 65536 in
set_option maxHeartbeats 40000000 in
theorem rm_grz (l : Launch) (Z : State) (a0 : Array Value) (hw : ∀ d ∈ tables_1, d.before a0 Z = true) (ws : List Jvm.Cond) (r0 : Addr) (wm : Int32) (dce : Addr) (h0 : Heap) (n0 : Nat) (Z0 : n0 ≤ h0.size) (H0 : Exa Z h0 r0 "java/util/ArrayList") (H1 : Fld Z h0 r0 "java/util/AbstractList" "modCount" "I" (.int wm)) (H2 : Fld Z h0 r0 "java/util/ArrayList" "elementData" "[Ljava/lang/Object;" (.ref dce)) (H3 : Fld Z h0 r0 "java/util/ArrayList" "size" "I" (.int (0 : Int32))) (H4 : LA Z h0 dce 0) (H5 : Sta Z h0 "java/util/ArrayList" "DEFAULTCAPACITY_EMPTY_ELEMENTDATA" "[Ljava/lang/Object;" (.ref dce)) (g_r0 : n0 ≤ r0) (n_r0_dce : r0 ≠ dce) :
    MetFree l (⟨"java/util/ArrayList", "grow", "()[Ljava/lang/Object;"⟩ : MethodName) (head1 (Jvm.Cond.code (⟨"java/util/ArrayList", "grow", "()[Ljava/lang/Object;"⟩ : MethodName) jdk_38_method_7_code 1 (some (.array (.object "java/lang/Object"))) :: ws) ({ frames := 2, cells := 1, slots := 10, locals := 29 } : Room)) (fun a U => a = #[(.ref r0)] ∧ Z.Warmed39 U.vm ∧ U.heap = h0) (fun _ _ _ _ _ => True) (fun _ U o U' => ∃ v L, o = .returned v ∧ QGr Z r0 (0 : Int32) wm h0 n0 v U'.heap L ∧ FrameEnd U o U' L ({ frames := 2, cells := 1, slots := 10, locals := 29 } : Room).cells ({ frames := 2, cells := 1, slots := 10, locals := 29 } : Room).slots) := by
  refine MetFree.of_bodySF (plainFor_of_name grz_pn) hisR ?_
  intro p e s m args below meth c s₁ Bd hml0 hP hK
  obtain ⟨rfl, hZ, hh⟩ := hP
  have hx := Bd.exec
  have hby := Bd.bytes
  have hml : c.maxLocals = 1 := hml0
  have hown : s.vm.findClass "java/util/ArrayList" = some m.cls := findClass_of_methodNamed Bd.named
  have hnm := (name_of_methodNamed Bd.named Bd.method).1
  have X0 : Stand p l e ({ frames := 2, cells := 1, slots := 10, locals := 29 } : Room) s m #[(.ref r0)] below meth c s₁ [] 0 0 := Stand.of_body Bd
  have e0 : s₁.heap = h0 := by rw [← hh, Bd.state]; rfl
  have N0 := Fr.nil n0
  obtain ⟨P0, hP0⟩ : ∃ P0 : State → Prop, P0 = fun t => Steps p.tables e below (s₁.setTop (entryFrame m #[(.ref r0)] 1)) t := ⟨_, rfl⟩
  have K0 : ∀ t, Steps p.tables e below (s₁.setTop (mkF m 0 #[.val (.ref r0)] [])) t → P0 t := by
    intro t k; rw [hP0]; exact castTop (grz_ef m r0) k
  obtain ⟨T1, X1, e1, st1⟩ := getF X0 hx hZ hown (host := "") (Or.inl (hw _ (gw 43 rfl))) Via.refl e0 H3 (g := (mkF m 2 #[.val (.ref r0)] [(.ref r0), (.ref r0)])) rfl rfl (hb hby grz_d2)
  obtain ⟨cq2, q2, q2'⟩ := H0.cell
  obtain ⟨_, _, ⟨T2, L2, k2, n2⟩, -, X2, ⟨Lc2, hQ2, l2, y2, z2⟩, st2⟩ := X1.privateBack hx (y := (⟨"java/util/ArrayList", "grow", "(I)[Ljava/lang/Object;"⟩ : MethodName)) hown (mvT hZ (hw _ (gw 107 rfl))) (mvT hZ (hw _ (gw 108 rfl))) (mvT hZ (hw _ (gw 110 rfl))) (Cond.privateMethod_at (mvP hZ (hw _ (gw 109 rfl)) (args := #[]))) (mvT hZ (hw _ (gw 111 rfl))) (by decide) (backOf (W := 0) (rm_gri l Z a0 hw [] r0 (1 : Int32) (0 : Int32) wm dce h0 n0 Z0 H0 H1 H2 H3 H4 H5 g_r0 n_r0_dce rfl) hZ (hw _ (gw 111 rfl)) (hw _ (gw 3 rfl)) (by decide) (by decide)) (g := (mkF m 7 #[.val (.ref r0)] [(.int (1 : Int32)), (.ref r0)])) rfl (by rw [hml]; rfl) (Steps.refl _) (a := r0) (by rw [e1]; exact q2) q2' (argsL := [(.int (1 : Int32))]) (rest := []) (lenOf grz_pd0 rfl) rfl (by show 2 * 0 + _ ≤ _; exact Nat.le_of_eq rfl) (hb hby grz_d7) (fun _ _ => ⟨rfl, e1, (by decide : 0 + 1 ≤ _), (by decide : 0 + 10 ≤ _)⟩)
  dsimp only [Pt.U, Pt.locs, Pt.cells, Pt.slots] at X2 l2 y2 z2 st2 hQ2
  rw [l2, y2, z2] at X2
  obtain ⟨h2, e2⟩ : ∃ z, T2.heap = z := ⟨_, rfl⟩
  rw [e2] at hQ2
  obtain ⟨b7, rfl, N2q, Kq2, gs_b7, F3, F4, F5, F6, F7⟩ := hQ2
  have N2 := Fr.app N0 N2q
  have g_b7 : n0 ≤ b7 := Nat.le_trans Z0 gs_b7
  have ne_r0_b7 : r0 ≠ b7 := Nat.ne_of_lt (Nat.lt_of_lt_of_le H0.lt gs_b7)
  have ne_dce_b7 : dce ≠ b7 := Nat.ne_of_lt (Nat.lt_of_lt_of_le H4.lt gs_b7)
  have sz_b7 : h0.size ≤ b7 := Nat.le_trans (Keep.refl h0 [r0]).1 gs_b7
  have Z2 : n0 ≤ h2.size := Nat.le_trans Z0 Kq2.1
  have F8 := H4.keep Kq2 (ninS (Ne.symm n_r0_dce) nin0)
  have F9 := own_keepS H5 Kq2 (allS (own_plE H0) all0)
  have Kp2 : Keep h0 h2 [r0] := (Keep.refl h0 [r0]).trans Kq2 (allS (Or.inl (List.mem_of_getElem? (i := 0) rfl)) all0)
  have K10 : ∀ t, Steps p.tables e below (T2.setTop (mkF m 10 #[.val (.ref r0)] [(.ref b7)])) t → P0 t := by
    intro t kt
    refine K0 t ?_
    refine XS.aloadN X0.here hx rfl (hb hby grz_d0) rfl rfl ?_
    refine XS.aloadN X0.here hx rfl (hb hby grz_d1) rfl rfl ?_
    show Steps p.tables e below (s₁.setTop (mkF m 2 #[.val (.ref r0)] [(.ref r0), (.ref r0)])) t
    refine st1 _ ?_
    refine XS.iconst X1.here hx rfl (hb hby grz_d5) ?_
    show Steps p.tables e below (T1.setTop (mkF m 6 #[.val (.ref r0)] [(.int (1 : Int32)), (.int (0 : Int32)), (.ref r0)])) t
    refine XS.iadd X1.here hx rfl (hb hby grz_d6) rfl ?_
    show Steps p.tables e below (T1.setTop (mkF m 7 #[.val (.ref r0)] [(.int (1 : Int32)), (.ref r0)])) t
    refine st2.trans ?_
    exact kt
  obtain ⟨fs, hr, hrun, hended, hW, hsame⟩ := X2.leave (v := some (.ref b7)) (fun h => by rw [Bd.returns] at h; cases h)
  refine ⟨_, _, ?_, hrun, hended, _, _, rfl, ?_, ⟨_, rfl⟩, hW, hsame.mono (by decide) (by decide)⟩
  · skip
    have q := K10 _ (retOut X2 hx Bd.returns rfl (Or.inr (Or.inr (Or.inr (Or.inr ⟨rfl, rfl, rfl⟩)))) (hb hby grz_d10) hr)
    rw [hP0] at q; exact q
  · show QGr Z r0 (0 : Int32) wm h0 n0 _ T2.heap _
    rw [e2]
    exact ⟨b7, rfl, N2, Kp2, sz_b7, F3, F4, F5, F6, F7⟩
theorem adg_d0 : decode jdk_38_method_24_code 0 = .ok (.iload_n 3, 1) := by decide +kernel
theorem adg_d1 : decode jdk_38_method_24_code 1 = .ok (.aload_n 2, 1) := by decide +kernel
theorem adg_d2 : decode jdk_38_method_24_code 2 = .ok (.arraylength, 1) := by decide +kernel
theorem adg_d3 : decode jdk_38_method_24_code 3 = .ok (.if_icmp .ne 8, 3) := by decide +kernel
theorem adg_d6 : decode jdk_38_method_24_code 6 = .ok (.aload_n 0, 1) := by decide +kernel
theorem adg_d7 : decode jdk_38_method_24_code 7 = .ok (.invokevirtual 129, 3) := by decide +kernel
theorem adg_d10 : decode jdk_38_method_24_code 10 = .ok (.astore_n 2, 1) := by decide +kernel
theorem adg_d11 : decode jdk_38_method_24_code 11 = .ok (.aload_n 2, 1) := by decide +kernel
theorem adg_d12 : decode jdk_38_method_24_code 12 = .ok (.iload_n 3, 1) := by decide +kernel
theorem adg_d13 : decode jdk_38_method_24_code 13 = .ok (.aload_n 1, 1) := by decide +kernel
theorem adg_d14 : decode jdk_38_method_24_code 14 = .ok (.aastore, 1) := by decide +kernel
theorem adg_d15 : decode jdk_38_method_24_code 15 = .ok (.aload_n 0, 1) := by decide +kernel
theorem adg_d16 : decode jdk_38_method_24_code 16 = .ok (.iload_n 3, 1) := by decide +kernel
theorem adg_d17 : decode jdk_38_method_24_code 17 = .ok (.iconst 1, 1) := by decide +kernel
theorem adg_d18 : decode jdk_38_method_24_code 18 = .ok (.iadd, 1) := by decide +kernel
theorem adg_d19 : decode jdk_38_method_24_code 19 = .ok (.putfield 48, 3) := by decide +kernel
theorem adg_d22 : decode jdk_38_method_24_code 22 = .ok (.return_, 1) := by decide +kernel
theorem adg_pn : plainName "java/util/ArrayList" = true := by first | (simp [plainName, overriddenIn]; done) | decide +kernel
theorem adg_pd0 : parseMethodDescriptor "()[Ljava/lang/Object;" = some ⟨[], some (.array (.object "java/lang/Object"))⟩ := by decide +kernel
theorem adg_ef (m : MethodId) (x0 : Addr) (x1 : Addr) (x2 : Addr) (x3 : Int32) : entryFrame m #[(.ref x0), (.ref x1), (.ref x2), (.int x3)] 4 = mkF m 0 #[.val (.ref x0), .val (.ref x1), .val (.ref x2), .val (.int x3)] [] := by first | (simp [entryFrame, mkF, argsToLocals, Value.category]; done) | rfl
set_option maxRecDepth 65536 in
set_option maxHeartbeats 40000000 in
theorem rm_adg (l : Launch) (Z : State) (a0 : Array Value) (hw : ∀ d ∈ tables_1, d.before a0 Z = true) (ws : List Jvm.Cond) (r0 : Addr) (r1 : Addr) (r2 : Addr) (p3 : Int32) (wm : Int32) (h0 : Heap) (n0 : Nat) (Z0 : n0 ≤ h0.size) (H0 : Exa Z h0 r0 "java/util/ArrayList") (H1 : Fld Z h0 r0 "java/util/AbstractList" "modCount" "I" (.int wm)) (H2 : Fld Z h0 r0 "java/util/ArrayList" "elementData" "[Ljava/lang/Object;" (.ref r2)) (H3 : Fld Z h0 r0 "java/util/ArrayList" "size" "I" (.int (0 : Int32))) (H4 : LA Z h0 r2 0) (H5 : Sta Z h0 "java/util/ArrayList" "DEFAULTCAPACITY_EMPTY_ELEMENTDATA" "[Ljava/lang/Object;" (.ref r2)) (H6 : Exa Z h0 r1 "com/example/termwright/termwright/Commit$Segment") (g_r0 : n0 ≤ r0) (n_r0_r2 : r0 ≠ r2) (n_r0_r1 : r0 ≠ r1) (hp3 : p3 = (0 : Int32)) :
    MetFree l (⟨"java/util/ArrayList", "add", "(Ljava/lang/Object;[Ljava/lang/Object;I)V"⟩ : MethodName) (head1 (Jvm.Cond.code (⟨"java/util/ArrayList", "add", "(Ljava/lang/Object;[Ljava/lang/Object;I)V"⟩ : MethodName) jdk_38_method_24_code 4 none :: ws) ({ frames := 3, cells := 1, slots := 10, locals := 41 } : Room)) (fun a U => a = #[(.ref r0), (.ref r1), (.ref r2), (.int p3)] ∧ Z.Warmed39 U.vm ∧ U.heap = h0) (fun _ _ _ _ _ => True) (fun _ U o U' => ∃ v L, o = .returned v ∧ QAd Z r0 r1 wm none h0 n0 v U'.heap L ∧ FrameEnd U o U' L ({ frames := 3, cells := 1, slots := 10, locals := 41 } : Room).cells ({ frames := 3, cells := 1, slots := 10, locals := 41 } : Room).slots) := by
  refine MetFree.of_bodySF (plainFor_of_name adg_pn) hisR ?_
  intro p e s m args below meth c s₁ Bd hml0 hP hK
  obtain ⟨rfl, hZ, hh⟩ := hP
  have hx := Bd.exec
  have hby := Bd.bytes
  have hml : c.maxLocals = 4 := hml0
  have hown : s.vm.findClass "java/util/ArrayList" = some m.cls := findClass_of_methodNamed Bd.named
  have hnm := (name_of_methodNamed Bd.named Bd.method).1
  have X0 : Stand p l e ({ frames := 3, cells := 1, slots := 10, locals := 41 } : Room) s m #[(.ref r0), (.ref r1), (.ref r2), (.int p3)] below meth c s₁ [] 0 0 := Stand.of_body Bd
  have e0 : s₁.heap = h0 := by rw [← hh, Bd.state]; rfl
  have N0 := Fr.nil n0
  obtain ⟨P0, hP0⟩ : ∃ P0 : State → Prop, P0 = fun t => Steps p.tables e below (s₁.setTop (entryFrame m #[(.ref r0), (.ref r1), (.ref r2), (.int p3)] 4)) t := ⟨_, rfl⟩
  have K0 : ∀ t, Steps p.tables e below (s₁.setTop (mkF m 0 #[.val (.ref r0), .val (.ref r1), .val (.ref r2), .val (.int p3)] [])) t → P0 t := by
    intro t k; rw [hP0]; exact castTop (adg_ef m r0 r1 r2 p3) k
  obtain ⟨cq1, q1, q1'⟩ := H0.cell
  obtain ⟨_, _, ⟨T1, L1, k1, n1⟩, -, X1, ⟨Lc1, hQ1, l1, y1, z1⟩, st1⟩ := X0.privateBack hx (y := (⟨"java/util/ArrayList", "grow", "()[Ljava/lang/Object;"⟩ : MethodName)) hown (mvT hZ (hw _ (gw 102 rfl))) (mvT hZ (hw _ (gw 103 rfl))) (mvT hZ (hw _ (gw 105 rfl))) (Cond.privateMethod_at (mvP hZ (hw _ (gw 104 rfl)) (args := #[]))) (mvT hZ (hw _ (gw 106 rfl))) (by decide) (backOf (W := 0) (rm_grz l Z a0 hw [] r0 wm r2 h0 n0 Z0 H0 H1 H2 H3 H4 H5 g_r0 n_r0_r2) hZ (hw _ (gw 106 rfl)) (hw _ (gw 3 rfl)) (by decide) (by decide)) (g := (mkF m 7 #[.val (.ref r0), .val (.ref r1), .val (.ref r2), .val (.int p3)] [(.ref r0)])) rfl (by rw [hml]; rfl) (Steps.refl _) (a := r0) (by rw [e0]; exact q1) q1' (argsL := []) (rest := []) (lenOf adg_pd0 rfl) rfl (by show 2 * 0 + _ ≤ _; exact Nat.le_of_eq rfl) (hb hby adg_d7) (fun _ _ => ⟨rfl, e0, (by decide : 0 + 1 ≤ _), (by decide : 0 + 10 ≤ _)⟩)
  dsimp only [Pt.U, Pt.locs, Pt.cells, Pt.slots] at X1 l1 y1 z1 st1 hQ1
  rw [l1, y1, z1] at X1
  obtain ⟨h1, e1⟩ : ∃ z, T1.heap = z := ⟨_, rfl⟩
  rw [e1] at hQ1
  obtain ⟨b7, rfl, N1q, Kq1, gs_b7, F2, F3, F4, F5, F6⟩ := hQ1
  have N1 := Fr.app N0 N1q
  have g_b7 : n0 ≤ b7 := Nat.le_trans Z0 gs_b7
  have ne_r0_b7 : r0 ≠ b7 := Nat.ne_of_lt (Nat.lt_of_lt_of_le H0.lt gs_b7)
  have ne_r2_b7 : r2 ≠ b7 := Nat.ne_of_lt (Nat.lt_of_lt_of_le H4.lt gs_b7)
  have ne_r1_b7 : r1 ≠ b7 := Nat.ne_of_lt (Nat.lt_of_lt_of_le H6.lt gs_b7)
  have sz_b7 : h0.size ≤ b7 := Nat.le_trans (Keep.refl h0 [r0]).1 gs_b7
  have Z1 : n0 ≤ h1.size := Nat.le_trans Z0 Kq1.1
  have F7 := H4.keep Kq1 (ninS (Ne.symm n_r0_r2) nin0)
  have F8 := own_keepS H5 Kq1 (allS (own_plE H0) all0)
  have F9 := H6.keep Kq1
  have Kp1 : Keep h0 h1 [r0] := (Keep.refl h0 [r0]).trans Kq1 (allS (Or.inl (List.mem_of_getElem? (i := 0) rfl)) all0)
  obtain ⟨T10, h10, X10, e10, ⟨sl10, vv10, W10⟩, V10, st10⟩ := stRA X1 hx hZ e1 F6 (j := p3) (by rw [hp3]; decide) (Ins.of_exa F9 (hw _ (gw 118 rfl))) (g := (mkF m 14 #[.val (.ref r0), .val (.ref r1), .val (.ref b7), .val (.int p3)] [(.ref r1), (.int p3), (.ref b7)])) rfl rfl (hb hby adg_d14)
  have Z10 : n0 ≤ h10.size := Nat.le_trans Z1 (Keep.of_wr W10).1
  have N10 := Fr.snoc X10 N1 g_b7
  have F11 := Exa.wr W10 F2
  have F12 := Fld.other W10 F3 (Or.inl ne_r0_b7)
  have F13 := Fld.other W10 F4 (Or.inl ne_r0_b7)
  have F14 := Fld.other W10 F5 (Or.inl ne_r0_b7)
  have F15 := F7.other W10 ne_r2_b7
  have F16 := Sta.wr W10 F8
  have F17 := Exa.wr W10 F9
  have Kp10 : Keep h0 h10 [r0] := Kp1.wr W10 (Or.inr sz_b7)
  obtain ⟨T18, h18, X18, e18, W18, st18⟩ := putF X10 hx hZ hown (host := "") (Or.inl (hw _ (gw 43 rfl))) Via.refl e10 F14 F11 (Or.inl (hw _ (gw 44 rfl))) (hw _ (gw 2 rfl)) (ty := .int) (by decide) rfl rfl (g := (mkF m 19 #[.val (.ref r0), .val (.ref r1), .val (.ref b7), .val (.int p3)] [(.int (p3 + (1 : Int32))), (.ref r0)])) rfl rfl (hb hby adg_d19)
  have Z18 : n0 ≤ h18.size := Nat.le_trans Z10 (Keep.of_wr W18).1
  have N18 := Fr.snoc X18 N10 g_r0
  have F19 := Exa.wr W18 F11
  have F20 := Fld.other W18 F12 (Or.inr (slot_ne (Or.inl (hw _ (gw 23 rfl))) (Or.inl (hw _ (gw 44 rfl))) (by decide) (t := .int) (t' := .int) (by decide) (by decide)))
  have F21 := Fld.other W18 F13 (Or.inr (slot_ne (Or.inl (hw _ (gw 26 rfl))) (Or.inl (hw _ (gw 44 rfl))) (by decide) (t := (.array (.object "java/lang/Object"))) (t' := .int) (by decide) (by decide)))
  have F22 := F15.other W18 (Ne.symm n_r0_r2)
  have F23 := Sta.wr W18 F16
  have F24 := Exa.wr W18 F17
  have F25 := V10.other W18 (Ne.symm ne_r0_b7)
  have Kp18 : Keep h0 h18 [r0] := Kp10.wr W18 (Or.inl (List.mem_of_getElem? (i := 0) rfl))
  have F26 : Fld Z h18 r0 "java/util/ArrayList" "size" "I" (.int (p3 + (1 : Int32))) := Fld.same W18 F14
  have K27 : ∀ t, Steps p.tables e below (T18.setTop (mkF m 22 #[.val (.ref r0), .val (.ref r1), .val (.ref b7), .val (.int p3)] [])) t → P0 t := by
    intro t kt
    refine K0 t ?_
    refine XS.iloadN X0.here hx rfl (hb hby adg_d0) rfl ?_
    refine XS.aloadN X0.here hx rfl (hb hby adg_d1) rfl rfl ?_
    show Steps p.tables e below (s₁.setTop (mkF m 2 #[.val (.ref r0), .val (.ref r1), .val (.ref r2), .val (.int p3)] [(.ref r2), (.int p3)])) t
    refine lnLA X0 hx hZ e0 H4 (z := (0 : Int32)) (by decide) (g := (mkF m 2 #[.val (.ref r0), .val (.ref r1), .val (.ref r2), .val (.int p3)] [(.ref r2), (.int p3)])) rfl rfl (hb hby adg_d2) _ ?_
    show Steps p.tables e below (s₁.setTop (mkF m 3 #[.val (.ref r0), .val (.ref r1), .val (.ref r2), .val (.int p3)] [(.int (0 : Int32)), (.int p3)])) t
    refine XS.icmpNo X0.here hx rfl (hb hby adg_d3) rfl (teq hp3).2 ?_
    refine XS.aloadN X0.here hx rfl (hb hby adg_d6) rfl rfl ?_
    show Steps p.tables e below (s₁.setTop (mkF m 7 #[.val (.ref r0), .val (.ref r1), .val (.ref r2), .val (.int p3)] [(.ref r0)])) t
    refine st1.trans ?_
    show Steps p.tables e below (T1.setTop (mkF m 10 #[.val (.ref r0), .val (.ref r1), .val (.ref r2), .val (.int p3)] [(.ref b7)])) t
    refine XS.astoreN X1.here hx rfl (hb hby adg_d10) rfl rfl (l' := #[.val (.ref r0), .val (.ref r1), .val (.ref b7), .val (.int p3)]) rfl ?_
    refine XS.aloadN X1.here hx rfl (hb hby adg_d11) rfl rfl ?_
    refine XS.iloadN X1.here hx rfl (hb hby adg_d12) rfl ?_
    refine XS.aloadN X1.here hx rfl (hb hby adg_d13) rfl rfl ?_
    show Steps p.tables e below (T1.setTop (mkF m 14 #[.val (.ref r0), .val (.ref r1), .val (.ref b7), .val (.int p3)] [(.ref r1), (.int p3), (.ref b7)])) t
    refine st10 _ ?_
    refine XS.aloadN X10.here hx rfl (hb hby adg_d15) rfl rfl ?_
    refine XS.iloadN X10.here hx rfl (hb hby adg_d16) rfl ?_
    refine XS.iconst X10.here hx rfl (hb hby adg_d17) ?_
    show Steps p.tables e below (T10.setTop (mkF m 18 #[.val (.ref r0), .val (.ref r1), .val (.ref b7), .val (.int p3)] [(.int (1 : Int32)), (.int p3), (.ref r0)])) t
    refine XS.iadd X10.here hx rfl (hb hby adg_d18) rfl ?_
    show Steps p.tables e below (T10.setTop (mkF m 19 #[.val (.ref r0), .val (.ref r1), .val (.ref b7), .val (.int p3)] [(.int (p3 + (1 : Int32))), (.ref r0)])) t
    refine st18 _ ?_
    exact kt
  obtain ⟨fs, hr, hrun, hended, hW, hsame⟩ := X18.leave (v := none) (fun _ => rfl)
  refine ⟨_, _, ?_, hrun, hended, _, _, rfl, ?_, ⟨_, rfl⟩, hW, hsame.mono (by decide) (by decide)⟩
  · skip
    have q := K27 _ (X18.returnOut hx Bd.returns (hb hby adg_d22) hr)
    rw [hP0] at q; exact q
  · show QAd Z r0 r1 wm none h0 n0 _ T18.heap _
    rw [e18]
    rw [show (p3 + (1 : Int32)) = (1 : Int32) by rw [hp3]; decide] at F26
    rw [show (p3).toNatClampNeg = 0 by rw [hp3]; decide] at F25
    exact ⟨b7, rfl, N18, Kp18, sz_b7, F19, F20, F21, F26, F25⟩
theorem ada_d0 : decode jdk_38_method_25_code 0 = .ok (.aload_n 0, 1) := by decide +kernel
theorem ada_d1 : decode jdk_38_method_25_code 1 = .ok (.dup, 1) := by decide +kernel
theorem ada_d2 : decode jdk_38_method_25_code 2 = .ok (.getfield 63, 3) := by decide +kernel
theorem ada_d5 : decode jdk_38_method_25_code 5 = .ok (.iconst 1, 1) := by decide +kernel
theorem ada_d6 : decode jdk_38_method_25_code 6 = .ok (.iadd, 1) := by decide +kernel
theorem ada_d7 : decode jdk_38_method_25_code 7 = .ok (.putfield 63, 3) := by decide +kernel
theorem ada_d10 : decode jdk_38_method_25_code 10 = .ok (.aload_n 0, 1) := by decide +kernel
theorem ada_d11 : decode jdk_38_method_25_code 11 = .ok (.aload_n 1, 1) := by decide +kernel
theorem ada_d12 : decode jdk_38_method_25_code 12 = .ok (.aload_n 0, 1) := by decide +kernel
theorem ada_d13 : decode jdk_38_method_25_code 13 = .ok (.getfield 9, 3) := by decide +kernel
theorem ada_d16 : decode jdk_38_method_25_code 16 = .ok (.aload_n 0, 1) := by decide +kernel
theorem ada_d17 : decode jdk_38_method_25_code 17 = .ok (.getfield 48, 3) := by decide +kernel
theorem ada_d20 : decode jdk_38_method_25_code 20 = .ok (.invokevirtual 131, 3) := by decide +kernel
theorem ada_d23 : decode jdk_38_method_25_code 23 = .ok (.iconst 1, 1) := by decide +kernel
theorem ada_d24 : decode jdk_38_method_25_code 24 = .ok (.ireturn, 1) := by decide +kernel
theorem ada_pn : plainName "java/util/ArrayList" = true := by first | (simp [plainName, overriddenIn]; done) | decide +kernel
theorem ada_pd0 : parseMethodDescriptor "(Ljava/lang/Object;[Ljava/lang/Object;I)V" = some ⟨[(.object "java/lang/Object"), (.array (.object "java/lang/Object")), .int], none⟩ := by decide +kernel
theorem ada_ef (m : MethodId) (x0 : Addr) (x1 : Addr) : entryFrame m #[(.ref x0), (.ref x1)] 2 = mkF m 0 #[.val (.ref x0), .val (.ref x1)] [] := by first | (simp [entryFrame, mkF, argsToLocals, Value.category]; done) | rfl
set_option maxRecDepth 65536 in
set_option maxHeartbeats 40000000 in
theorem rm_ada (l : Launch) (Z : State) (a0 : Array Value) (hw : ∀ d ∈ tables_1, d.before a0 Z = true) (ws : List Jvm.Cond) (r0 : Addr) (r1 : Addr) (wm : Int32) (dce : Addr) (h0 : Heap) (n0 : Nat) (Z0 : n0 ≤ h0.size) (H0 : Exa Z h0 r0 "java/util/ArrayList") (H1 : Fld Z h0 r0 "java/util/AbstractList" "modCount" "I" (.int wm)) (H2 : Fld Z h0 r0 "java/util/ArrayList" "elementData" "[Ljava/lang/Object;" (.ref dce)) (H3 : Fld Z h0 r0 "java/util/ArrayList" "size" "I" (.int (0 : Int32))) (H4 : LA Z h0 dce 0) (H5 : Sta Z h0 "java/util/ArrayList" "DEFAULTCAPACITY_EMPTY_ELEMENTDATA" "[Ljava/lang/Object;" (.ref dce)) (H6 : Exa Z h0 r1 "com/example/termwright/termwright/Commit$Segment") (g_r0 : n0 ≤ r0) (n_r0_dce : r0 ≠ dce) (n_r0_r1 : r0 ≠ r1) :
    MetFree l (⟨"java/util/ArrayList", "add", "(Ljava/lang/Object;)Z"⟩ : MethodName) (head1 (Jvm.Cond.code (⟨"java/util/ArrayList", "add", "(Ljava/lang/Object;)Z"⟩ : MethodName) jdk_38_method_25_code 2 (some .boolean) :: ws) ({ frames := 4, cells := 1, slots := 10, locals := 56 } : Room)) (fun a U => a = #[(.ref r0), (.ref r1)] ∧ Z.Warmed39 U.vm ∧ U.heap = h0) (fun _ _ _ _ _ => True) (fun _ U o U' => ∃ v L, o = .returned v ∧ QAd Z r0 r1 (wm + (1 : Int32)) (some (.int (nar .boolean (1 : Int32)))) h0 n0 v U'.heap L ∧ FrameEnd U o U' L ({ frames := 4, cells := 1, slots := 10, locals := 56 } : Room).cells ({ frames := 4, cells := 1, slots := 10, locals := 56 } : Room).slots) := by
  refine MetFree.of_bodySF (plainFor_of_name ada_pn) hisR ?_
  intro p e s m args below meth c s₁ Bd hml0 hP hK
  obtain ⟨rfl, hZ, hh⟩ := hP
  have hx := Bd.exec
  have hby := Bd.bytes
  have hml : c.maxLocals = 2 := hml0
  have hown : s.vm.findClass "java/util/ArrayList" = some m.cls := findClass_of_methodNamed Bd.named
  have hnm := (name_of_methodNamed Bd.named Bd.method).1
  have X0 : Stand p l e ({ frames := 4, cells := 1, slots := 10, locals := 56 } : Room) s m #[(.ref r0), (.ref r1)] below meth c s₁ [] 0 0 := Stand.of_body Bd
  have e0 : s₁.heap = h0 := by rw [← hh, Bd.state]; rfl
  have N0 := Fr.nil n0
  obtain ⟨P0, hP0⟩ : ∃ P0 : State → Prop, P0 = fun t => Steps p.tables e below (s₁.setTop (entryFrame m #[(.ref r0), (.ref r1)] 2)) t := ⟨_, rfl⟩
  have K0 : ∀ t, Steps p.tables e below (s₁.setTop (mkF m 0 #[.val (.ref r0), .val (.ref r1)] [])) t → P0 t := by
    intro t k; rw [hP0]; exact castTop (ada_ef m r0 r1) k
  obtain ⟨T1, X1, e1, st1⟩ := getF X0 hx hZ hown (host := "") (Or.inl (hw _ (gw 95 rfl))) (Via.of (hw _ (gw 96 rfl))) e0 H1 (g := (mkF m 2 #[.val (.ref r0), .val (.ref r1)] [(.ref r0), (.ref r0)])) rfl rfl (hb hby ada_d2)
  obtain ⟨T2, h2, X2, e2, W2, st2⟩ := putF X1 hx hZ hown (host := "") (Or.inl (hw _ (gw 95 rfl))) (Via.of (hw _ (gw 96 rfl))) e1 H1 H0 (Or.inl (hw _ (gw 23 rfl))) (hw _ (gw 2 rfl)) (ty := .int) (by decide) rfl rfl (g := (mkF m 7 #[.val (.ref r0), .val (.ref r1)] [(.int (wm + (1 : Int32))), (.ref r0)])) rfl rfl (hb hby ada_d7)
  have Z2 : n0 ≤ h2.size := Nat.le_trans Z0 (Keep.of_wr W2).1
  have N2 := Fr.snoc X2 N0 g_r0
  have F3 := Exa.wr W2 H0
  have F4 := Fld.other W2 H2 (Or.inr (slot_ne (Or.inl (hw _ (gw 26 rfl))) (Or.inl (hw _ (gw 23 rfl))) (by decide) (t := (.array (.object "java/lang/Object"))) (t' := .int) (by decide) (by decide)))
  have F5 := Fld.other W2 H3 (Or.inr (slot_ne (Or.inl (hw _ (gw 44 rfl))) (Or.inl (hw _ (gw 23 rfl))) (by decide) (t := .int) (t' := .int) (by decide) (by decide)))
  have F6 := H4.other W2 (Ne.symm n_r0_dce)
  have F7 := Sta.wr W2 H5
  have F8 := Exa.wr W2 H6
  have Kp2 : Keep h0 h2 [r0] := (Keep.refl h0 [r0]).wr W2 (Or.inl (List.mem_of_getElem? (i := 0) rfl))
  have F9 : Fld Z h2 r0 "java/util/AbstractList" "modCount" "I" (.int (wm + (1 : Int32))) := Fld.same W2 H1
  obtain ⟨T10, X10, e10, st10⟩ := getF X2 hx hZ hown (host := "") (Or.inl (hw _ (gw 25 rfl))) Via.refl e2 F4 (g := (mkF m 13 #[.val (.ref r0), .val (.ref r1)] [(.ref r0), (.ref r1), (.ref r0)])) rfl rfl (hb hby ada_d13)
  obtain ⟨T11, X11, e11, st11⟩ := getF X10 hx hZ hown (host := "") (Or.inl (hw _ (gw 43 rfl))) Via.refl e10 F5 (g := (mkF m 17 #[.val (.ref r0), .val (.ref r1)] [(.ref r0), (.ref dce), (.ref r1), (.ref r0)])) rfl rfl (hb hby ada_d17)
  obtain ⟨cq12, q12, q12'⟩ := F3.cell
  obtain ⟨_, _, ⟨T12, L12, k12, n12⟩, -, X12, ⟨Lc12, hQ12, l12, y12, z12⟩, st12⟩ := X11.privateBack hx (y := (⟨"java/util/ArrayList", "add", "(Ljava/lang/Object;[Ljava/lang/Object;I)V"⟩ : MethodName)) hown (mvT hZ (hw _ (gw 97 rfl))) (mvT hZ (hw _ (gw 98 rfl))) (mvT hZ (hw _ (gw 100 rfl))) (Cond.privateMethod_at (mvP hZ (hw _ (gw 99 rfl)) (args := #[]))) (mvT hZ (hw _ (gw 101 rfl))) (by decide) (backOf (W := 0) (rm_adg l Z a0 hw [] r0 r1 dce (0 : Int32) (wm + (1 : Int32)) h2 n0 Z2 F3 F9 F4 F5 F6 F7 F8 g_r0 n_r0_dce n_r0_r1 rfl) hZ (hw _ (gw 101 rfl)) (hw _ (gw 3 rfl)) (by decide) (by decide)) (g := (mkF m 20 #[.val (.ref r0), .val (.ref r1)] [(.int (0 : Int32)), (.ref dce), (.ref r1), (.ref r0)])) rfl (by rw [hml]; rfl) (Steps.refl _) (a := r0) (by rw [e11]; exact q12) q12' (argsL := [(.ref r1), (.ref dce), (.int (0 : Int32))]) (rest := []) (lenOf ada_pd0 rfl) rfl (by show 2 * 0 + _ ≤ _; exact Nat.le_of_eq rfl) (hb hby ada_d20) (fun _ _ => ⟨rfl, e11, (by decide : 0 + 1 ≤ _), (by decide : 0 + 10 ≤ _)⟩)
  dsimp only [Pt.U, Pt.locs, Pt.cells, Pt.slots] at X12 l12 y12 z12 st12 hQ12
  rw [l12, y12, z12] at X12
  obtain ⟨h12, e12⟩ : ∃ z, T12.heap = z := ⟨_, rfl⟩
  rw [e12] at hQ12
  obtain ⟨b20, rfl, N12q, Kq12, gs_b20, F13, F14, F15, F16, F17⟩ := hQ12
  have N12 := Fr.app N2 N12q
  have g_b20 : n0 ≤ b20 := Nat.le_trans Z2 gs_b20
  have ne_r0_b20 : r0 ≠ b20 := Nat.ne_of_lt (Nat.lt_of_lt_of_le F3.lt gs_b20)
  have ne_dce_b20 : dce ≠ b20 := Nat.ne_of_lt (Nat.lt_of_lt_of_le F6.lt gs_b20)
  have ne_r1_b20 : r1 ≠ b20 := Nat.ne_of_lt (Nat.lt_of_lt_of_le F8.lt gs_b20)
  have sz_b20 : h0.size ≤ b20 := Nat.le_trans Kp2.1 gs_b20
  have Z12 : n0 ≤ h12.size := Nat.le_trans Z2 Kq12.1
  have F18 := F6.keep Kq12 (ninS (Ne.symm n_r0_dce) nin0)
  have F19 := own_keepS F7 Kq12 (allS (own_plE F3) all0)
  have F20 := F8.keep Kq12
  have Kp12 : Keep h0 h12 [r0] := Kp2.trans Kq12 (allS (Or.inl (List.mem_of_getElem? (i := 0) rfl)) all0)
  have K21 : ∀ t, Steps p.tables e below (T12.setTop (mkF m 24 #[.val (.ref r0), .val (.ref r1)] [(.int (1 : Int32))])) t → P0 t := by
    intro t kt
    refine K0 t ?_
    refine XS.aloadN X0.here hx rfl (hb hby ada_d0) rfl rfl ?_
    show Steps p.tables e below (s₁.setTop (mkF m 1 #[.val (.ref r0), .val (.ref r1)] [(.ref r0)])) t
    refine XS.dup X0.here hx rfl (hb hby ada_d1) rfl rfl ?_
    show Steps p.tables e below (s₁.setTop (mkF m 2 #[.val (.ref r0), .val (.ref r1)] [(.ref r0), (.ref r0)])) t
    refine st1 _ ?_
    refine XS.iconst X1.here hx rfl (hb hby ada_d5) ?_
    show Steps p.tables e below (T1.setTop (mkF m 6 #[.val (.ref r0), .val (.ref r1)] [(.int (1 : Int32)), (.int wm), (.ref r0)])) t
    refine XS.iadd X1.here hx rfl (hb hby ada_d6) rfl ?_
    show Steps p.tables e below (T1.setTop (mkF m 7 #[.val (.ref r0), .val (.ref r1)] [(.int (wm + (1 : Int32))), (.ref r0)])) t
    refine st2 _ ?_
    refine XS.aloadN X2.here hx rfl (hb hby ada_d10) rfl rfl ?_
    refine XS.aloadN X2.here hx rfl (hb hby ada_d11) rfl rfl ?_
    refine XS.aloadN X2.here hx rfl (hb hby ada_d12) rfl rfl ?_
    show Steps p.tables e below (T2.setTop (mkF m 13 #[.val (.ref r0), .val (.ref r1)] [(.ref r0), (.ref r1), (.ref r0)])) t
    refine st10 _ ?_
    refine XS.aloadN X10.here hx rfl (hb hby ada_d16) rfl rfl ?_
    show Steps p.tables e below (T10.setTop (mkF m 17 #[.val (.ref r0), .val (.ref r1)] [(.ref r0), (.ref dce), (.ref r1), (.ref r0)])) t
    refine st11 _ ?_
    show Steps p.tables e below (T11.setTop (mkF m 20 #[.val (.ref r0), .val (.ref r1)] [(.int (0 : Int32)), (.ref dce), (.ref r1), (.ref r0)])) t
    refine st12.trans ?_
    refine XS.iconst X12.here hx rfl (hb hby ada_d23) ?_
    exact kt
  obtain ⟨fs, hr, hrun, hended, hW, hsame⟩ := X12.leave (v := some (.int (nar .boolean (1 : Int32)))) (fun h => by rw [Bd.returns] at h; cases h)
  refine ⟨_, _, ?_, hrun, hended, _, _, rfl, ?_, ⟨_, rfl⟩, hW, hsame.mono (by decide) (by decide)⟩
  · skip
    have q := K21 _ (retN X12 hx (t := .boolean) Bd.returns (by simp) (hb hby ada_d24) hr)
    rw [hP0] at q; exact q
  · show QAd Z r0 r1 (wm + (1 : Int32)) (some (.int (nar .boolean (1 : Int32)))) h0 n0 _ T12.heap _
    rw [e12]
    exact ⟨b20, rfl, N12, Kp12, sz_b20, F13, F14, F15, F16, F17⟩
theorem adn_d0 : decode jdk_38_method_24_code 0 = .ok (.iload_n 3, 1) := by decide +kernel
theorem adn_d1 : decode jdk_38_method_24_code 1 = .ok (.aload_n 2, 1) := by decide +kernel
theorem adn_d2 : decode jdk_38_method_24_code 2 = .ok (.arraylength, 1) := by decide +kernel
theorem adn_d3 : decode jdk_38_method_24_code 3 = .ok (.if_icmp .ne 8, 3) := by decide +kernel
theorem adn_d11 : decode jdk_38_method_24_code 11 = .ok (.aload_n 2, 1) := by decide +kernel
theorem adn_d12 : decode jdk_38_method_24_code 12 = .ok (.iload_n 3, 1) := by decide +kernel
theorem adn_d13 : decode jdk_38_method_24_code 13 = .ok (.aload_n 1, 1) := by decide +kernel
theorem adn_d14 : decode jdk_38_method_24_code 14 = .ok (.aastore, 1) := by decide +kernel
theorem adn_d15 : decode jdk_38_method_24_code 15 = .ok (.aload_n 0, 1) := by decide +kernel
theorem adn_d16 : decode jdk_38_method_24_code 16 = .ok (.iload_n 3, 1) := by decide +kernel
theorem adn_d17 : decode jdk_38_method_24_code 17 = .ok (.iconst 1, 1) := by decide +kernel
theorem adn_d18 : decode jdk_38_method_24_code 18 = .ok (.iadd, 1) := by decide +kernel
theorem adn_d19 : decode jdk_38_method_24_code 19 = .ok (.putfield 48, 3) := by decide +kernel
theorem adn_d22 : decode jdk_38_method_24_code 22 = .ok (.return_, 1) := by decide +kernel
theorem adn_pn : plainName "java/util/ArrayList" = true := by first | (simp [plainName, overriddenIn]; done) | decide +kernel
theorem adn_ef (m : MethodId) (x0 : Addr) (x1 : Addr) (x2 : Addr) (x3 : Int32) : entryFrame m #[(.ref x0), (.ref x1), (.ref x2), (.int x3)] 4 = mkF m 0 #[.val (.ref x0), .val (.ref x1), .val (.ref x2), .val (.int x3)] [] := by first | (simp [entryFrame, mkF, argsToLocals, Value.category]; done) | rfl
set_option maxRecDepth 65536 in
set_option maxHeartbeats 40000000 in
theorem rm_adn (l : Launch) (Z : State) (a0 : Array Value) (hw : ∀ d ∈ tables_1, d.before a0 Z = true) (ws : List Jvm.Cond) (r0 : Addr) (r1 : Addr) (r2 : Addr) (p3 : Int32) (wm wk : Int32) (f : Nat → Value) (i : Nat) (h0 : Heap) (n0 : Nat) (Z0 : n0 ≤ h0.size) (H0 : Exa Z h0 r0 "java/util/ArrayList") (H1 : Fld Z h0 r0 "java/util/AbstractList" "modCount" "I" (.int wm)) (H2 : Fld Z h0 r0 "java/util/ArrayList" "elementData" "[Ljava/lang/Object;" (.ref r2)) (H3 : Fld Z h0 r0 "java/util/ArrayList" "size" "I" (.int p3)) (H4 : RA Z h0 r2 10 f) (H5 : Exa Z h0 r1 "com/example/termwright/termwright/Commit$Segment") (g_r0 : n0 ≤ r0) (g_r2 : n0 ≤ r2) (n_r0_r2 : r0 ≠ r2) (n_r0_r1 : r0 ≠ r1) (n_r2_r1 : r2 ≠ r1) (hi : p3.toNatClampNeg = i) (hlt : i < 10) (hnn : ¬ p3 < 0) (hten : ¬ p3 = (10 : Int32)) (hk : p3 + 1 = wk) :
    MetFree l (⟨"java/util/ArrayList", "add", "(Ljava/lang/Object;[Ljava/lang/Object;I)V"⟩ : MethodName) (head1 (Jvm.Cond.code (⟨"java/util/ArrayList", "add", "(Ljava/lang/Object;[Ljava/lang/Object;I)V"⟩ : MethodName) jdk_38_method_24_code 4 none :: ws) ({ frames := 0, cells := 0, slots := 0, locals := 0 } : Room)) (fun a U => a = #[(.ref r0), (.ref r1), (.ref r2), (.int p3)] ∧ Z.Warmed39 U.vm ∧ U.heap = h0) (fun _ _ _ _ _ => True) (fun _ U o U' => ∃ v L, o = .returned v ∧ QAe Z r0 r1 r2 wm wk f i none h0 n0 v U'.heap L ∧ FrameEnd U o U' L ({ frames := 0, cells := 0, slots := 0, locals := 0 } : Room).cells ({ frames := 0, cells := 0, slots := 0, locals := 0 } : Room).slots) := by
  refine MetFree.of_bodySF (plainFor_of_name adn_pn) hisR ?_
  intro p e s m args below meth c s₁ Bd hml0 hP hK
  obtain ⟨rfl, hZ, hh⟩ := hP
  have hx := Bd.exec
  have hby := Bd.bytes
  have hml : c.maxLocals = 4 := hml0
  have hown : s.vm.findClass "java/util/ArrayList" = some m.cls := findClass_of_methodNamed Bd.named
  have hnm := (name_of_methodNamed Bd.named Bd.method).1
  have X0 : Stand p l e ({ frames := 0, cells := 0, slots := 0, locals := 0 } : Room) s m #[(.ref r0), (.ref r1), (.ref r2), (.int p3)] below meth c s₁ [] 0 0 := Stand.of_body Bd
  have e0 : s₁.heap = h0 := by rw [← hh, Bd.state]; rfl
  have N0 := Fr.nil n0
  obtain ⟨P0, hP0⟩ : ∃ P0 : State → Prop, P0 = fun t => Steps p.tables e below (s₁.setTop (entryFrame m #[(.ref r0), (.ref r1), (.ref r2), (.int p3)] 4)) t := ⟨_, rfl⟩
  have K0 : ∀ t, Steps p.tables e below (s₁.setTop (mkF m 0 #[.val (.ref r0), .val (.ref r1), .val (.ref r2), .val (.int p3)] [])) t → P0 t := by
    intro t k; rw [hP0]; exact castTop (adn_ef m r0 r1 r2 p3) k
  obtain ⟨T1, h1, X1, e1, ⟨sl1, vv1, W1⟩, V1, st1⟩ := stRA X0 hx hZ e0 H4 (j := p3) (by rw [hi]; exact fun z => z.elim hnn (Nat.not_le_of_lt hlt)) (Ins.of_exa H5 (hw _ (gw 118 rfl))) (g := (mkF m 14 #[.val (.ref r0), .val (.ref r1), .val (.ref r2), .val (.int p3)] [(.ref r1), (.int p3), (.ref r2)])) rfl rfl (hb hby adn_d14)
  have Z1 : n0 ≤ h1.size := Nat.le_trans Z0 (Keep.of_wr W1).1
  have N1 := Fr.snoc X1 N0 g_r2
  have F2 := Exa.wr W1 H0
  have F3 := Fld.other W1 H1 (Or.inl n_r0_r2)
  have F4 := Fld.other W1 H2 (Or.inl n_r0_r2)
  have F5 := Fld.other W1 H3 (Or.inl n_r0_r2)
  have F6 := Exa.wr W1 H5
  have Kp1 : Keep h0 h1 [r0, r2] := (Keep.refl h0 [r0, r2]).wr W1 (Or.inl (List.mem_of_getElem? (i := 1) rfl))
  obtain ⟨T7, h7, X7, e7, W7, st7⟩ := putF X1 hx hZ hown (host := "") (Or.inl (hw _ (gw 43 rfl))) Via.refl e1 F5 F2 (Or.inl (hw _ (gw 44 rfl))) (hw _ (gw 2 rfl)) (ty := .int) (by decide) rfl rfl (g := (mkF m 19 #[.val (.ref r0), .val (.ref r1), .val (.ref r2), .val (.int p3)] [(.int (p3 + (1 : Int32))), (.ref r0)])) rfl rfl (hb hby adn_d19)
  have Z7 : n0 ≤ h7.size := Nat.le_trans Z1 (Keep.of_wr W7).1
  have N7 := Fr.snoc X7 N1 g_r0
  have F8 := Exa.wr W7 F2
  have F9 := Fld.other W7 F3 (Or.inr (slot_ne (Or.inl (hw _ (gw 23 rfl))) (Or.inl (hw _ (gw 44 rfl))) (by decide) (t := .int) (t' := .int) (by decide) (by decide)))
  have F10 := Fld.other W7 F4 (Or.inr (slot_ne (Or.inl (hw _ (gw 26 rfl))) (Or.inl (hw _ (gw 44 rfl))) (by decide) (t := (.array (.object "java/lang/Object"))) (t' := .int) (by decide) (by decide)))
  have F11 := V1.other W7 (Ne.symm n_r0_r2)
  have F12 := Exa.wr W7 F6
  have Kp7 : Keep h0 h7 [r0, r2] := Kp1.wr W7 (Or.inl (List.mem_of_getElem? (i := 0) rfl))
  have F13 : Fld Z h7 r0 "java/util/ArrayList" "size" "I" (.int (p3 + (1 : Int32))) := Fld.same W7 F5
  have K14 : ∀ t, Steps p.tables e below (T7.setTop (mkF m 22 #[.val (.ref r0), .val (.ref r1), .val (.ref r2), .val (.int p3)] [])) t → P0 t := by
    intro t kt
    refine K0 t ?_
    refine XS.iloadN X0.here hx rfl (hb hby adn_d0) rfl ?_
    refine XS.aloadN X0.here hx rfl (hb hby adn_d1) rfl rfl ?_
    show Steps p.tables e below (s₁.setTop (mkF m 2 #[.val (.ref r0), .val (.ref r1), .val (.ref r2), .val (.int p3)] [(.ref r2), (.int p3)])) t
    refine lnRA X0 hx hZ e0 H4 (z := (10 : Int32)) (by decide) (g := (mkF m 2 #[.val (.ref r0), .val (.ref r1), .val (.ref r2), .val (.int p3)] [(.ref r2), (.int p3)])) rfl rfl (hb hby adn_d2) _ ?_
    show Steps p.tables e below (s₁.setTop (mkF m 3 #[.val (.ref r0), .val (.ref r1), .val (.ref r2), .val (.int p3)] [(.int (10 : Int32)), (.int p3)])) t
    refine XS.icmpYes X0.here hx rfl (pc0 := 3) (pc' := 11) rfl (hb hby adn_d3) rfl (feq hten).2 (by decide) (by decide) ?_
    refine XS.aloadN X0.here hx rfl (hb hby adn_d11) rfl rfl ?_
    refine XS.iloadN X0.here hx rfl (hb hby adn_d12) rfl ?_
    refine XS.aloadN X0.here hx rfl (hb hby adn_d13) rfl rfl ?_
    show Steps p.tables e below (s₁.setTop (mkF m 14 #[.val (.ref r0), .val (.ref r1), .val (.ref r2), .val (.int p3)] [(.ref r1), (.int p3), (.ref r2)])) t
    refine st1 _ ?_
    refine XS.aloadN X1.here hx rfl (hb hby adn_d15) rfl rfl ?_
    refine XS.iloadN X1.here hx rfl (hb hby adn_d16) rfl ?_
    refine XS.iconst X1.here hx rfl (hb hby adn_d17) ?_
    show Steps p.tables e below (T1.setTop (mkF m 18 #[.val (.ref r0), .val (.ref r1), .val (.ref r2), .val (.int p3)] [(.int (1 : Int32)), (.int p3), (.ref r0)])) t
    refine XS.iadd X1.here hx rfl (hb hby adn_d18) rfl ?_
    show Steps p.tables e below (T1.setTop (mkF m 19 #[.val (.ref r0), .val (.ref r1), .val (.ref r2), .val (.int p3)] [(.int (p3 + (1 : Int32))), (.ref r0)])) t
    refine st7 _ ?_
    exact kt
  obtain ⟨fs, hr, hrun, hended, hW, hsame⟩ := X7.leave (v := none) (fun _ => rfl)
  refine ⟨_, _, ?_, hrun, hended, _, _, rfl, ?_, ⟨_, rfl⟩, hW, hsame.mono (by decide) (by decide)⟩
  · skip
    have q := K14 _ (X7.returnOut hx Bd.returns (hb hby adn_d22) hr)
    rw [hP0] at q; exact q
  · show QAe Z r0 r1 r2 wm wk f i none h0 n0 _ T7.heap _
    rw [e7]
    rw [hk] at F13
    rw [hi] at F11
    exact ⟨rfl, N7, Kp7, F8, F9, F10, F13, F11⟩
theorem adb_d0 : decode jdk_38_method_25_code 0 = .ok (.aload_n 0, 1) := by decide +kernel
theorem adb_d1 : decode jdk_38_method_25_code 1 = .ok (.dup, 1) := by decide +kernel
theorem adb_d2 : decode jdk_38_method_25_code 2 = .ok (.getfield 63, 3) := by decide +kernel
theorem adb_d5 : decode jdk_38_method_25_code 5 = .ok (.iconst 1, 1) := by decide +kernel
theorem adb_d6 : decode jdk_38_method_25_code 6 = .ok (.iadd, 1) := by decide +kernel
theorem adb_d7 : decode jdk_38_method_25_code 7 = .ok (.putfield 63, 3) := by decide +kernel
theorem adb_d10 : decode jdk_38_method_25_code 10 = .ok (.aload_n 0, 1) := by decide +kernel
theorem adb_d11 : decode jdk_38_method_25_code 11 = .ok (.aload_n 1, 1) := by decide +kernel
theorem adb_d12 : decode jdk_38_method_25_code 12 = .ok (.aload_n 0, 1) := by decide +kernel
theorem adb_d13 : decode jdk_38_method_25_code 13 = .ok (.getfield 9, 3) := by decide +kernel
theorem adb_d16 : decode jdk_38_method_25_code 16 = .ok (.aload_n 0, 1) := by decide +kernel
theorem adb_d17 : decode jdk_38_method_25_code 17 = .ok (.getfield 48, 3) := by decide +kernel
theorem adb_d20 : decode jdk_38_method_25_code 20 = .ok (.invokevirtual 131, 3) := by decide +kernel
theorem adb_d23 : decode jdk_38_method_25_code 23 = .ok (.iconst 1, 1) := by decide +kernel
theorem adb_d24 : decode jdk_38_method_25_code 24 = .ok (.ireturn, 1) := by decide +kernel
theorem adb_pn : plainName "java/util/ArrayList" = true := by first | (simp [plainName, overriddenIn]; done) | decide +kernel
theorem adb_pd0 : parseMethodDescriptor "(Ljava/lang/Object;[Ljava/lang/Object;I)V" = some ⟨[(.object "java/lang/Object"), (.array (.object "java/lang/Object")), .int], none⟩ := by decide +kernel
theorem adb_ef (m : MethodId) (x0 : Addr) (x1 : Addr) : entryFrame m #[(.ref x0), (.ref x1)] 2 = mkF m 0 #[.val (.ref x0), .val (.ref x1)] [] := by first | (simp [entryFrame, mkF, argsToLocals, Value.category]; done) | rfl
set_option maxRecDepth 65536 in
set_option maxHeartbeats 40000000 in
theorem rm_adb (l : Launch) (Z : State) (a0 : Array Value) (hw : ∀ d ∈ tables_1, d.before a0 Z = true) (ws : List Jvm.Cond) (r0 : Addr) (r1 : Addr) (wn : Int32) (ed : Addr) (wm wk : Int32) (f : Nat → Value) (i : Nat) (h0 : Heap) (n0 : Nat) (Z0 : n0 ≤ h0.size) (H0 : Exa Z h0 r0 "java/util/ArrayList") (H1 : Fld Z h0 r0 "java/util/AbstractList" "modCount" "I" (.int wm)) (H2 : Fld Z h0 r0 "java/util/ArrayList" "elementData" "[Ljava/lang/Object;" (.ref ed)) (H3 : Fld Z h0 r0 "java/util/ArrayList" "size" "I" (.int wn)) (H4 : RA Z h0 ed 10 f) (H5 : Exa Z h0 r1 "com/example/termwright/termwright/Commit$Segment") (g_r0 : n0 ≤ r0) (g_ed : n0 ≤ ed) (n_r0_ed : r0 ≠ ed) (n_r0_r1 : r0 ≠ r1) (n_ed_r1 : ed ≠ r1) (hi : wn.toNatClampNeg = i) (hlt : i < 10) (hnn : ¬ wn < 0) (hten : ¬ wn = (10 : Int32)) (hk : wn + 1 = wk) :
    MetFree l (⟨"java/util/ArrayList", "add", "(Ljava/lang/Object;)Z"⟩ : MethodName) (head1 (Jvm.Cond.code (⟨"java/util/ArrayList", "add", "(Ljava/lang/Object;)Z"⟩ : MethodName) jdk_38_method_25_code 2 (some .boolean) :: ws) ({ frames := 1, cells := 0, slots := 0, locals := 15 } : Room)) (fun a U => a = #[(.ref r0), (.ref r1)] ∧ Z.Warmed39 U.vm ∧ U.heap = h0) (fun _ _ _ _ _ => True) (fun _ U o U' => ∃ v L, o = .returned v ∧ QAe Z r0 r1 ed (wm + (1 : Int32)) wk f i (some (.int (nar .boolean (1 : Int32)))) h0 n0 v U'.heap L ∧ FrameEnd U o U' L ({ frames := 1, cells := 0, slots := 0, locals := 15 } : Room).cells ({ frames := 1, cells := 0, slots := 0, locals := 15 } : Room).slots) := by
  refine MetFree.of_bodySF (plainFor_of_name adb_pn) hisR ?_
  intro p e s m args below meth c s₁ Bd hml0 hP hK
  obtain ⟨rfl, hZ, hh⟩ := hP
  have hx := Bd.exec
  have hby := Bd.bytes
  have hml : c.maxLocals = 2 := hml0
  have hown : s.vm.findClass "java/util/ArrayList" = some m.cls := findClass_of_methodNamed Bd.named
  have hnm := (name_of_methodNamed Bd.named Bd.method).1
  have X0 : Stand p l e ({ frames := 1, cells := 0, slots := 0, locals := 15 } : Room) s m #[(.ref r0), (.ref r1)] below meth c s₁ [] 0 0 := Stand.of_body Bd
  have e0 : s₁.heap = h0 := by rw [← hh, Bd.state]; rfl
  have N0 := Fr.nil n0
  obtain ⟨P0, hP0⟩ : ∃ P0 : State → Prop, P0 = fun t => Steps p.tables e below (s₁.setTop (entryFrame m #[(.ref r0), (.ref r1)] 2)) t := ⟨_, rfl⟩
  have K0 : ∀ t, Steps p.tables e below (s₁.setTop (mkF m 0 #[.val (.ref r0), .val (.ref r1)] [])) t → P0 t := by
    intro t k; rw [hP0]; exact castTop (adb_ef m r0 r1) k
  obtain ⟨T1, X1, e1, st1⟩ := getF X0 hx hZ hown (host := "") (Or.inl (hw _ (gw 95 rfl))) (Via.of (hw _ (gw 96 rfl))) e0 H1 (g := (mkF m 2 #[.val (.ref r0), .val (.ref r1)] [(.ref r0), (.ref r0)])) rfl rfl (hb hby adb_d2)
  obtain ⟨T2, h2, X2, e2, W2, st2⟩ := putF X1 hx hZ hown (host := "") (Or.inl (hw _ (gw 95 rfl))) (Via.of (hw _ (gw 96 rfl))) e1 H1 H0 (Or.inl (hw _ (gw 23 rfl))) (hw _ (gw 2 rfl)) (ty := .int) (by decide) rfl rfl (g := (mkF m 7 #[.val (.ref r0), .val (.ref r1)] [(.int (wm + (1 : Int32))), (.ref r0)])) rfl rfl (hb hby adb_d7)
  have Z2 : n0 ≤ h2.size := Nat.le_trans Z0 (Keep.of_wr W2).1
  have N2 := Fr.snoc X2 N0 g_r0
  have F3 := Exa.wr W2 H0
  have F4 := Fld.other W2 H2 (Or.inr (slot_ne (Or.inl (hw _ (gw 26 rfl))) (Or.inl (hw _ (gw 23 rfl))) (by decide) (t := (.array (.object "java/lang/Object"))) (t' := .int) (by decide) (by decide)))
  have F5 := Fld.other W2 H3 (Or.inr (slot_ne (Or.inl (hw _ (gw 44 rfl))) (Or.inl (hw _ (gw 23 rfl))) (by decide) (t := .int) (t' := .int) (by decide) (by decide)))
  have F6 := H4.other W2 (Ne.symm n_r0_ed)
  have F7 := Exa.wr W2 H5
  have Kp2 : Keep h0 h2 [r0, ed] := (Keep.refl h0 [r0, ed]).wr W2 (Or.inl (List.mem_of_getElem? (i := 0) rfl))
  have F8 : Fld Z h2 r0 "java/util/AbstractList" "modCount" "I" (.int (wm + (1 : Int32))) := Fld.same W2 H1
  obtain ⟨T9, X9, e9, st9⟩ := getF X2 hx hZ hown (host := "") (Or.inl (hw _ (gw 25 rfl))) Via.refl e2 F4 (g := (mkF m 13 #[.val (.ref r0), .val (.ref r1)] [(.ref r0), (.ref r1), (.ref r0)])) rfl rfl (hb hby adb_d13)
  obtain ⟨T10, X10, e10, st10⟩ := getF X9 hx hZ hown (host := "") (Or.inl (hw _ (gw 43 rfl))) Via.refl e9 F5 (g := (mkF m 17 #[.val (.ref r0), .val (.ref r1)] [(.ref r0), (.ref ed), (.ref r1), (.ref r0)])) rfl rfl (hb hby adb_d17)
  obtain ⟨cq11, q11, q11'⟩ := F3.cell
  obtain ⟨_, _, ⟨T11, L11, k11, n11⟩, -, X11, ⟨Lc11, hQ11, l11, y11, z11⟩, st11⟩ := X10.privateBack hx (y := (⟨"java/util/ArrayList", "add", "(Ljava/lang/Object;[Ljava/lang/Object;I)V"⟩ : MethodName)) hown (mvT hZ (hw _ (gw 97 rfl))) (mvT hZ (hw _ (gw 98 rfl))) (mvT hZ (hw _ (gw 100 rfl))) (Cond.privateMethod_at (mvP hZ (hw _ (gw 99 rfl)) (args := #[]))) (mvT hZ (hw _ (gw 101 rfl))) (by decide) (backOf (W := 0) (rm_adn l Z a0 hw [] r0 r1 ed wn (wm + (1 : Int32)) wk f i h2 n0 Z2 F3 F8 F4 F5 F6 F7 g_r0 g_ed n_r0_ed n_r0_r1 n_ed_r1 hi hlt hnn hten hk) hZ (hw _ (gw 101 rfl)) (hw _ (gw 3 rfl)) (by decide) (by decide)) (g := (mkF m 20 #[.val (.ref r0), .val (.ref r1)] [(.int wn), (.ref ed), (.ref r1), (.ref r0)])) rfl (by rw [hml]; rfl) (Steps.refl _) (a := r0) (by rw [e10]; exact q11) q11' (argsL := [(.ref r1), (.ref ed), (.int wn)]) (rest := []) (lenOf adb_pd0 rfl) rfl (by show 2 * 0 + _ ≤ _; exact Nat.le_of_eq rfl) (hb hby adb_d20) (fun _ _ => ⟨rfl, e10, (by decide : 0 + 0 ≤ _), (by decide : 0 + 0 ≤ _)⟩)
  dsimp only [Pt.U, Pt.locs, Pt.cells, Pt.slots] at X11 l11 y11 z11 st11 hQ11
  rw [l11, y11, z11] at X11
  obtain ⟨h11, e11⟩ : ∃ z, T11.heap = z := ⟨_, rfl⟩
  rw [e11] at hQ11
  obtain ⟨rfl, N11q, Kq11, F12, F13, F14, F15, F16⟩ := hQ11
  have N11 := Fr.app N2 N11q
  have Z11 : n0 ≤ h11.size := Nat.le_trans Z2 Kq11.1
  have F17 := F7.keep Kq11
  have Kp11 : Keep h0 h11 [r0, ed] := Kp2.trans Kq11 (allS (Or.inl (List.mem_of_getElem? (i := 0) rfl)) (allS (Or.inl (List.mem_of_getElem? (i := 1) rfl)) all0))
  have K18 : ∀ t, Steps p.tables e below (T11.setTop (mkF m 24 #[.val (.ref r0), .val (.ref r1)] [(.int (1 : Int32))])) t → P0 t := by
    intro t kt
    refine K0 t ?_
    refine XS.aloadN X0.here hx rfl (hb hby adb_d0) rfl rfl ?_
    show Steps p.tables e below (s₁.setTop (mkF m 1 #[.val (.ref r0), .val (.ref r1)] [(.ref r0)])) t
    refine XS.dup X0.here hx rfl (hb hby adb_d1) rfl rfl ?_
    show Steps p.tables e below (s₁.setTop (mkF m 2 #[.val (.ref r0), .val (.ref r1)] [(.ref r0), (.ref r0)])) t
    refine st1 _ ?_
    refine XS.iconst X1.here hx rfl (hb hby adb_d5) ?_
    show Steps p.tables e below (T1.setTop (mkF m 6 #[.val (.ref r0), .val (.ref r1)] [(.int (1 : Int32)), (.int wm), (.ref r0)])) t
    refine XS.iadd X1.here hx rfl (hb hby adb_d6) rfl ?_
    show Steps p.tables e below (T1.setTop (mkF m 7 #[.val (.ref r0), .val (.ref r1)] [(.int (wm + (1 : Int32))), (.ref r0)])) t
    refine st2 _ ?_
    refine XS.aloadN X2.here hx rfl (hb hby adb_d10) rfl rfl ?_
    refine XS.aloadN X2.here hx rfl (hb hby adb_d11) rfl rfl ?_
    refine XS.aloadN X2.here hx rfl (hb hby adb_d12) rfl rfl ?_
    show Steps p.tables e below (T2.setTop (mkF m 13 #[.val (.ref r0), .val (.ref r1)] [(.ref r0), (.ref r1), (.ref r0)])) t
    refine st9 _ ?_
    refine XS.aloadN X9.here hx rfl (hb hby adb_d16) rfl rfl ?_
    show Steps p.tables e below (T9.setTop (mkF m 17 #[.val (.ref r0), .val (.ref r1)] [(.ref r0), (.ref ed), (.ref r1), (.ref r0)])) t
    refine st10 _ ?_
    show Steps p.tables e below (T10.setTop (mkF m 20 #[.val (.ref r0), .val (.ref r1)] [(.int wn), (.ref ed), (.ref r1), (.ref r0)])) t
    refine st11.trans ?_
    refine XS.iconst X11.here hx rfl (hb hby adb_d23) ?_
    exact kt
  obtain ⟨fs, hr, hrun, hended, hW, hsame⟩ := X11.leave (v := some (.int (nar .boolean (1 : Int32)))) (fun h => by rw [Bd.returns] at h; cases h)
  refine ⟨_, _, ?_, hrun, hended, _, _, rfl, ?_, ⟨_, rfl⟩, hW, hsame.mono (by decide) (by decide)⟩
  · skip
    have q := K18 _ (retN X11 hx (t := .boolean) Bd.returns (by simp) (hb hby adb_d24) hr)
    rw [hP0] at q; exact q
  · show QAe Z r0 r1 ed (wm + (1 : Int32)) wk f i (some (.int (nar .boolean (1 : Int32)))) h0 n0 _ T11.heap _
    rw [e11]
    exact ⟨rfl, N11, Kp11, F12, F13, F14, F15, F16⟩
theorem siz_d0 : decode jdk_38_method_8_code 0 = .ok (.aload_n 0, 1) := by decide +kernel
theorem siz_d1 : decode jdk_38_method_8_code 1 = .ok (.getfield 48, 3) := by decide +kernel
theorem siz_d4 : decode jdk_38_method_8_code 4 = .ok (.ireturn, 1) := by decide +kernel
theorem siz_pn : plainName "java/util/ArrayList" = true := by first | (simp [plainName, overriddenIn]; done) | decide +kernel
theorem siz_ef (m : MethodId) (x0 : Addr) : entryFrame m #[(.ref x0)] 1 = mkF m 0 #[.val (.ref x0)] [] := by first | (simp [entryFrame, mkF, argsToLocals, Value.category]; done) | rfl
set_option maxRecDepth 65536 in
set_option maxHeartbeats 40000000 in
theorem rm_siz (l : Launch) (Z : State) (a0 : Array Value) (hw : ∀ d ∈ tables_1, d.before a0 Z = true) (ws : List Jvm.Cond) (r0 : Addr) (w : Int32) (h0 : Heap) (n0 : Nat) (Z0 : n0 ≤ h0.size) (H0 : Fld Z h0 r0 "java/util/ArrayList" "size" "I" (.int w)) :
    MetFree l (⟨"java/util/ArrayList", "size", "()I"⟩ : MethodName) (head1 (Jvm.Cond.code (⟨"java/util/ArrayList", "size", "()I"⟩ : MethodName) jdk_38_method_8_code 1 (some .int) :: ws) ({ frames := 0, cells := 0, slots := 0, locals := 0 } : Room)) (fun a U => a = #[(.ref r0)] ∧ Z.Warmed39 U.vm ∧ U.heap = h0) (fun _ _ _ _ _ => True) (fun _ U o U' => ∃ v L, o = .returned v ∧ QP (.int w) h0 n0 v U'.heap L ∧ FrameEnd U o U' L ({ frames := 0, cells := 0, slots := 0, locals := 0 } : Room).cells ({ frames := 0, cells := 0, slots := 0, locals := 0 } : Room).slots) := by
  refine MetFree.of_bodySF (plainFor_of_name siz_pn) hisR ?_
  intro p e s m args below meth c s₁ Bd hml0 hP hK
  obtain ⟨rfl, hZ, hh⟩ := hP
  have hx := Bd.exec
  have hby := Bd.bytes
  have hml : c.maxLocals = 1 := hml0
  have hown : s.vm.findClass "java/util/ArrayList" = some m.cls := findClass_of_methodNamed Bd.named
  have hnm := (name_of_methodNamed Bd.named Bd.method).1
  have X0 : Stand p l e ({ frames := 0, cells := 0, slots := 0, locals := 0 } : Room) s m #[(.ref r0)] below meth c s₁ [] 0 0 := Stand.of_body Bd
  have e0 : s₁.heap = h0 := by rw [← hh, Bd.state]; rfl
  have N0 := Fr.nil n0
  obtain ⟨P0, hP0⟩ : ∃ P0 : State → Prop, P0 = fun t => Steps p.tables e below (s₁.setTop (entryFrame m #[(.ref r0)] 1)) t := ⟨_, rfl⟩
  have K0 : ∀ t, Steps p.tables e below (s₁.setTop (mkF m 0 #[.val (.ref r0)] [])) t → P0 t := by
    intro t k; rw [hP0]; exact castTop (siz_ef m r0) k
  obtain ⟨T1, X1, e1, st1⟩ := getF X0 hx hZ hown (host := "") (Or.inl (hw _ (gw 43 rfl))) Via.refl e0 H0 (g := (mkF m 1 #[.val (.ref r0)] [(.ref r0)])) rfl rfl (hb hby siz_d1)
  have K2 : ∀ t, Steps p.tables e below (T1.setTop (mkF m 4 #[.val (.ref r0)] [(.int w)])) t → P0 t := by
    intro t kt
    refine K0 t ?_
    refine XS.aloadN X0.here hx rfl (hb hby siz_d0) rfl rfl ?_
    show Steps p.tables e below (s₁.setTop (mkF m 1 #[.val (.ref r0)] [(.ref r0)])) t
    refine st1 _ ?_
    exact kt
  obtain ⟨fs, hr, hrun, hended, hW, hsame⟩ := X1.leave (v := some (.int w)) (fun h => by rw [Bd.returns] at h; cases h)
  refine ⟨_, _, ?_, hrun, hended, _, _, rfl, ?_, ⟨_, rfl⟩, hW, hsame.mono (by decide) (by decide)⟩
  · skip
    have q := K2 _ (retI X1 hx Bd.returns (hb hby siz_d4) hr)
    rw [hP0] at q; exact q
  · show QP _ h0 n0 _ T1.heap _
    rw [e1]
    exact ⟨rfl, N0, rfl⟩
theorem pci_d0 : decode jdk_41_method_11_code 0 = .ok (.iload_n 0, 1) := by decide +kernel
theorem pci_d1 : decode jdk_41_method_11_code 1 = .ok (.ifCond .lt 8, 3) := by decide +kernel
theorem pci_d4 : decode jdk_41_method_11_code 4 = .ok (.iload_n 0, 1) := by decide +kernel
theorem pci_d5 : decode jdk_41_method_11_code 5 = .ok (.iload_n 1, 1) := by decide +kernel
theorem pci_d6 : decode jdk_41_method_11_code 6 = .ok (.if_icmp .lt 10, 3) := by decide +kernel
theorem pci_d16 : decode jdk_41_method_11_code 16 = .ok (.iload_n 0, 1) := by decide +kernel
theorem pci_d17 : decode jdk_41_method_11_code 17 = .ok (.ireturn, 1) := by decide +kernel
theorem pci_pn : plainName "jdk/internal/util/Preconditions" = true := by first | (simp [plainName, overriddenIn]; done) | decide +kernel
theorem pci_ef (m : MethodId) (x0 : Int32) (x1 : Int32) : entryFrame m #[(.int x0), (.int x1), .null] 3 = mkF m 0 #[.val (.int x0), .val (.int x1), .val .null] [] := by first | (simp [entryFrame, mkF, argsToLocals, Value.category]; done) | rfl
set_option maxRecDepth 65536 in
set_option maxHeartbeats 40000000 in
theorem rm_pci (l : Launch) (Z : State) (a0 : Array Value) (hw : ∀ d ∈ tables_1, d.before a0 Z = true) (ws : List Jvm.Cond) (p0 : Int32) (p1 : Int32) (h0 : Heap) (n0 : Nat) (Z0 : n0 ≤ h0.size) (h1 : ¬ p0 < (0 : Int32)) (h2 : p0 < p1) :
    MetFree l (⟨"jdk/internal/util/Preconditions", "checkIndex", "(IILjava/util/function/BiFunction;)I"⟩ : MethodName) (head1 (Jvm.Cond.code (⟨"jdk/internal/util/Preconditions", "checkIndex", "(IILjava/util/function/BiFunction;)I"⟩ : MethodName) jdk_41_method_11_code 3 (some .int) :: ws) ({ frames := 0, cells := 0, slots := 0, locals := 0 } : Room)) (fun a U => a = #[(.int p0), (.int p1), .null] ∧ Z.Warmed39 U.vm ∧ U.heap = h0) (fun _ _ _ _ _ => True) (fun _ U o U' => ∃ v L, o = .returned v ∧ QP (.int p0) h0 n0 v U'.heap L ∧ FrameEnd U o U' L ({ frames := 0, cells := 0, slots := 0, locals := 0 } : Room).cells ({ frames := 0, cells := 0, slots := 0, locals := 0 } : Room).slots) := by
  refine MetFree.of_bodySF (plainFor_of_name pci_pn) hisR ?_
  intro p e s m args below meth c s₁ Bd hml0 hP hK
  obtain ⟨rfl, hZ, hh⟩ := hP
  have hx := Bd.exec
  have hby := Bd.bytes
  have hml : c.maxLocals = 3 := hml0
  have hown : s.vm.findClass "jdk/internal/util/Preconditions" = some m.cls := findClass_of_methodNamed Bd.named
  have hnm := (name_of_methodNamed Bd.named Bd.method).1
  have X0 : Stand p l e ({ frames := 0, cells := 0, slots := 0, locals := 0 } : Room) s m #[(.int p0), (.int p1), .null] below meth c s₁ [] 0 0 := Stand.of_body Bd
  have e0 : s₁.heap = h0 := by rw [← hh, Bd.state]; rfl
  have N0 := Fr.nil n0
  obtain ⟨P0, hP0⟩ : ∃ P0 : State → Prop, P0 = fun t => Steps p.tables e below (s₁.setTop (entryFrame m #[(.int p0), (.int p1), .null] 3)) t := ⟨_, rfl⟩
  have K0 : ∀ t, Steps p.tables e below (s₁.setTop (mkF m 0 #[.val (.int p0), .val (.int p1), .val .null] [])) t → P0 t := by
    intro t k; rw [hP0]; exact castTop (pci_ef m p0 p1) k
  have K1 : ∀ t, Steps p.tables e below (s₁.setTop (mkF m 17 #[.val (.int p0), .val (.int p1), .val .null] [(.int p0)])) t → P0 t := by
    intro t kt
    refine K0 t ?_
    refine XS.iloadN X0.here hx rfl (hb hby pci_d0) rfl ?_
    show Steps p.tables e below (s₁.setTop (mkF m 1 #[.val (.int p0), .val (.int p1), .val .null] [(.int p0)])) t
    refine XS.ifNo X0.here hx rfl (hb hby pci_d1) rfl ((if0 _ _).trans (flt h1).1) ?_
    refine XS.iloadN X0.here hx rfl (hb hby pci_d4) rfl ?_
    refine XS.iloadN X0.here hx rfl (hb hby pci_d5) rfl ?_
    show Steps p.tables e below (s₁.setTop (mkF m 6 #[.val (.int p0), .val (.int p1), .val .null] [(.int p1), (.int p0)])) t
    refine XS.icmpYes X0.here hx rfl (pc0 := 6) (pc' := 16) rfl (hb hby pci_d6) rfl (tlt h2).1 (by decide) (by decide) ?_
    refine XS.iloadN X0.here hx rfl (hb hby pci_d16) rfl ?_
    exact kt
  obtain ⟨fs, hr, hrun, hended, hW, hsame⟩ := X0.leave (v := some (.int p0)) (fun h => by rw [Bd.returns] at h; cases h)
  refine ⟨_, _, ?_, hrun, hended, _, _, rfl, ?_, ⟨_, rfl⟩, hW, hsame.mono (by decide) (by decide)⟩
  · skip
    have q := K1 _ (retI X0 hx Bd.returns (hb hby pci_d17) hr)
    rw [hP0] at q; exact q
  · show QP _ h0 n0 _ s₁.heap _
    rw [e0]
    exact ⟨rfl, N0, rfl⟩
theorem oci_d0 : decode jdk_31_method_17_code 0 = .ok (.iload_n 0, 1) := by decide +kernel
theorem oci_d1 : decode jdk_31_method_17_code 1 = .ok (.iload_n 1, 1) := by decide +kernel
theorem oci_d2 : decode jdk_31_method_17_code 2 = .ok (.aconst_null, 1) := by decide +kernel
theorem oci_d3 : decode jdk_31_method_17_code 3 = .ok (.invokestatic 105, 3) := by decide +kernel
theorem oci_d6 : decode jdk_31_method_17_code 6 = .ok (.ireturn, 1) := by decide +kernel
theorem oci_pn : plainName "java/util/Objects" = true := by first | (simp [plainName, overriddenIn]; done) | decide +kernel
theorem oci_pd0 : parseMethodDescriptor "(IILjava/util/function/BiFunction;)I" = some ⟨[.int, .int, (.object "java/util/function/BiFunction")], some .int⟩ := by decide +kernel
theorem oci_ef (m : MethodId) (x0 : Int32) (x1 : Int32) : entryFrame m #[(.int x0), (.int x1)] 2 = mkF m 0 #[.val (.int x0), .val (.int x1)] [] := by first | (simp [entryFrame, mkF, argsToLocals, Value.category]; done) | rfl
set_option maxRecDepth 65536 in
set_option maxHeartbeats 40000000 in
theorem rm_oci (l : Launch) (Z : State) (a0 : Array Value) (hw : ∀ d ∈ tables_1, d.before a0 Z = true) (ws : List Jvm.Cond) (p0 : Int32) (p1 : Int32) (h0 : Heap) (n0 : Nat) (Z0 : n0 ≤ h0.size) (h1 : ¬ p0 < (0 : Int32)) (h2 : p0 < p1) :
    MetFree l (⟨"java/util/Objects", "checkIndex", "(II)I"⟩ : MethodName) (head1 (Jvm.Cond.code (⟨"java/util/Objects", "checkIndex", "(II)I"⟩ : MethodName) jdk_31_method_17_code 2 (some .int) :: ws) ({ frames := 1, cells := 0, slots := 0, locals := 14 } : Room)) (fun a U => a = #[(.int p0), (.int p1)] ∧ Z.Warmed39 U.vm ∧ U.heap = h0) (fun _ _ _ _ _ => True) (fun _ U o U' => ∃ v L, o = .returned v ∧ QP (.int p0) h0 n0 v U'.heap L ∧ FrameEnd U o U' L ({ frames := 1, cells := 0, slots := 0, locals := 14 } : Room).cells ({ frames := 1, cells := 0, slots := 0, locals := 14 } : Room).slots) := by
  refine MetFree.of_bodySF (plainFor_of_name oci_pn) hisR ?_
  intro p e s m args below meth c s₁ Bd hml0 hP hK
  obtain ⟨rfl, hZ, hh⟩ := hP
  have hx := Bd.exec
  have hby := Bd.bytes
  have hml : c.maxLocals = 2 := hml0
  have hown : s.vm.findClass "java/util/Objects" = some m.cls := findClass_of_methodNamed Bd.named
  have hnm := (name_of_methodNamed Bd.named Bd.method).1
  have X0 : Stand p l e ({ frames := 1, cells := 0, slots := 0, locals := 14 } : Room) s m #[(.int p0), (.int p1)] below meth c s₁ [] 0 0 := Stand.of_body Bd
  have e0 : s₁.heap = h0 := by rw [← hh, Bd.state]; rfl
  have N0 := Fr.nil n0
  obtain ⟨P0, hP0⟩ : ∃ P0 : State → Prop, P0 = fun t => Steps p.tables e below (s₁.setTop (entryFrame m #[(.int p0), (.int p1)] 2)) t := ⟨_, rfl⟩
  have K0 : ∀ t, Steps p.tables e below (s₁.setTop (mkF m 0 #[.val (.int p0), .val (.int p1)] [])) t → P0 t := by
    intro t k; rw [hP0]; exact castTop (oci_ef m p0 p1) k
  obtain ⟨_, _, ⟨T1, L1, k1, n1⟩, -, X1, ⟨Lc1, hQ1, l1, y1, z1⟩, st1⟩ := Jvm.LawKit.callS X0 hx (y := (⟨"jdk/internal/util/Preconditions", "checkIndex", "(IILjava/util/function/BiFunction;)I"⟩ : MethodName)) hown (mvT hZ (hw _ (gw 131 rfl))) (mvT hZ (hw _ (gw 132 rfl))) (mvT hZ (hw _ (gw 133 rfl))) (mvT hZ (hw _ (gw 134 rfl))) (by decide) (backOf (W := 0) (rm_pci l Z a0 hw [] p0 p1 h0 n0 Z0 h1 h2) hZ (hw _ (gw 134 rfl)) (hw _ (gw 133 rfl)) (by decide) (by decide)) (g := (mkF m 3 #[.val (.int p0), .val (.int p1)] [.null, (.int p1), (.int p0)])) rfl (by rw [hml]; rfl) (argsL := [(.int p0), (.int p1), .null]) (rest := []) (lenOf oci_pd0 rfl) rfl (by show 2 * 0 + _ ≤ _; exact Nat.le_of_eq rfl) (hb hby oci_d3) (fun _ _ => ⟨rfl, e0, (by decide : 0 + 0 ≤ _), (by decide : 0 + 0 ≤ _)⟩)
  dsimp only [Pt.U, Pt.locs, Pt.cells, Pt.slots] at X1 l1 y1 z1 st1 hQ1
  rw [l1, y1, z1] at X1
  obtain ⟨rfl, N1q, e1⟩ := hQ1
  have N1 := Fr.app N0 N1q
  have K2 : ∀ t, Steps p.tables e below (T1.setTop (mkF m 6 #[.val (.int p0), .val (.int p1)] [(.int p0)])) t → P0 t := by
    intro t kt
    refine K0 t ?_
    refine XS.iloadN X0.here hx rfl (hb hby oci_d0) rfl ?_
    refine XS.iloadN X0.here hx rfl (hb hby oci_d1) rfl ?_
    show Steps p.tables e below (s₁.setTop (mkF m 2 #[.val (.int p0), .val (.int p1)] [(.int p1), (.int p0)])) t
    refine XS.aconstNull X0.here hx rfl (hb hby oci_d2) ?_
    show Steps p.tables e below (s₁.setTop (mkF m 3 #[.val (.int p0), .val (.int p1)] [.null, (.int p1), (.int p0)])) t
    refine st1 _ ?_
    exact kt
  obtain ⟨fs, hr, hrun, hended, hW, hsame⟩ := X1.leave (v := some (.int p0)) (fun h => by rw [Bd.returns] at h; cases h)
  refine ⟨_, _, ?_, hrun, hended, _, _, rfl, ?_, ⟨_, rfl⟩, hW, hsame.mono (by decide) (by decide)⟩
  · skip
    have q := K2 _ (retI X1 hx Bd.returns (hb hby oci_d6) hr)
    rw [hP0] at q; exact q
  · show QP _ h0 n0 _ T1.heap _
    rw [e1]
    exact ⟨rfl, N1, rfl⟩
theorem eld_d0 : decode jdk_38_method_18_code 0 = .ok (.aload_n 0, 1) := by decide +kernel
theorem eld_d1 : decode jdk_38_method_18_code 1 = .ok (.getfield 9, 3) := by decide +kernel
theorem eld_d4 : decode jdk_38_method_18_code 4 = .ok (.iload_n 1, 1) := by decide +kernel
theorem eld_d5 : decode jdk_38_method_18_code 5 = .ok (.aaload, 1) := by decide +kernel
theorem eld_d6 : decode jdk_38_method_18_code 6 = .ok (.areturn, 1) := by decide +kernel
theorem eld_pn : plainName "java/util/ArrayList" = true := by first | (simp [plainName, overriddenIn]; done) | decide +kernel
theorem eld_ef (m : MethodId) (x0 : Addr) (x1 : Int32) : entryFrame m #[(.ref x0), (.int x1)] 2 = mkF m 0 #[.val (.ref x0), .val (.int x1)] [] := by first | (simp [entryFrame, mkF, argsToLocals, Value.category]; done) | rfl
set_option maxRecDepth 65536 in
set_option maxHeartbeats 40000000 in
theorem rm_eld (l : Launch) (Z : State) (a0 : Array Value) (hw : ∀ d ∈ tables_1, d.before a0 Z = true) (ws : List Jvm.Cond) (r0 : Addr) (p1 : Int32) (ed x : Addr) (f : Nat → Value) (h0 : Heap) (n0 : Nat) (Z0 : n0 ≤ h0.size) (H0 : Fld Z h0 r0 "java/util/ArrayList" "elementData" "[Ljava/lang/Object;" (.ref ed)) (H1 : RA Z h0 ed 10 f) (hin : ¬ (p1 < 0 ∨ 10 ≤ p1.toNatClampNeg)) (hfx : f p1.toNatClampNeg = .ref x) :
    MetFree l (⟨"java/util/ArrayList", "elementData", "(I)Ljava/lang/Object;"⟩ : MethodName) (head1 (Jvm.Cond.code (⟨"java/util/ArrayList", "elementData", "(I)Ljava/lang/Object;"⟩ : MethodName) jdk_38_method_18_code 2 (some (.object "java/lang/Object")) :: ws) ({ frames := 0, cells := 0, slots := 0, locals := 0 } : Room)) (fun a U => a = #[(.ref r0), (.int p1)] ∧ Z.Warmed39 U.vm ∧ U.heap = h0) (fun _ _ _ _ _ => True) (fun _ U o U' => ∃ v L, o = .returned v ∧ QP (.ref x) h0 n0 v U'.heap L ∧ FrameEnd U o U' L ({ frames := 0, cells := 0, slots := 0, locals := 0 } : Room).cells ({ frames := 0, cells := 0, slots := 0, locals := 0 } : Room).slots) := by
  refine MetFree.of_bodySF (plainFor_of_name eld_pn) hisR ?_
  intro p e s m args below meth c s₁ Bd hml0 hP hK
  obtain ⟨rfl, hZ, hh⟩ := hP
  have hx := Bd.exec
  have hby := Bd.bytes
  have hml : c.maxLocals = 2 := hml0
  have hown : s.vm.findClass "java/util/ArrayList" = some m.cls := findClass_of_methodNamed Bd.named
  have hnm := (name_of_methodNamed Bd.named Bd.method).1
  have X0 : Stand p l e ({ frames := 0, cells := 0, slots := 0, locals := 0 } : Room) s m #[(.ref r0), (.int p1)] below meth c s₁ [] 0 0 := Stand.of_body Bd
  have e0 : s₁.heap = h0 := by rw [← hh, Bd.state]; rfl
  have N0 := Fr.nil n0
  obtain ⟨P0, hP0⟩ : ∃ P0 : State → Prop, P0 = fun t => Steps p.tables e below (s₁.setTop (entryFrame m #[(.ref r0), (.int p1)] 2)) t := ⟨_, rfl⟩
  have K0 : ∀ t, Steps p.tables e below (s₁.setTop (mkF m 0 #[.val (.ref r0), .val (.int p1)] [])) t → P0 t := by
    intro t k; rw [hP0]; exact castTop (eld_ef m r0 p1) k
  obtain ⟨T1, X1, e1, st1⟩ := getF X0 hx hZ hown (host := "") (Or.inl (hw _ (gw 25 rfl))) Via.refl e0 H0 (g := (mkF m 1 #[.val (.ref r0), .val (.int p1)] [(.ref r0)])) rfl rfl (hb hby eld_d1)
  have K2 : ∀ t, Steps p.tables e below (T1.setTop (mkF m 6 #[.val (.ref r0), .val (.int p1)] [(.ref x)])) t → P0 t := by
    intro t kt
    refine K0 t ?_
    refine XS.aloadN X0.here hx rfl (hb hby eld_d0) rfl rfl ?_
    show Steps p.tables e below (s₁.setTop (mkF m 1 #[.val (.ref r0), .val (.int p1)] [(.ref r0)])) t
    refine st1 _ ?_
    refine XS.iloadN X1.here hx rfl (hb hby eld_d4) rfl ?_
    show Steps p.tables e below (T1.setTop (mkF m 5 #[.val (.ref r0), .val (.int p1)] [(.int p1), (.ref ed)])) t
    refine ldRA X1 hx hZ e1 H1 (j := p1) (v := .ref x) hin hfx (g := (mkF m 5 #[.val (.ref r0), .val (.int p1)] [(.int p1), (.ref ed)])) rfl rfl (hb hby eld_d5) _ ?_
    exact kt
  obtain ⟨fs, hr, hrun, hended, hW, hsame⟩ := X1.leave (v := some (.ref x)) (fun h => by rw [Bd.returns] at h; cases h)
  refine ⟨_, _, ?_, hrun, hended, _, _, rfl, ?_, ⟨_, rfl⟩, hW, hsame.mono (by decide) (by decide)⟩
  · skip
    have q := K2 _ (retOut X1 hx Bd.returns rfl (Or.inr (Or.inr (Or.inr (Or.inr ⟨rfl, rfl, rfl⟩)))) (hb hby eld_d6) hr)
    rw [hP0] at q; exact q
  · show QP _ h0 n0 _ T1.heap _
    rw [e1]
    exact ⟨rfl, N0, rfl⟩
theorem get_d0 : decode jdk_38_method_20_code 0 = .ok (.iload_n 1, 1) := by decide +kernel
theorem get_d1 : decode jdk_38_method_20_code 1 = .ok (.aload_n 0, 1) := by decide +kernel
theorem get_d2 : decode jdk_38_method_20_code 2 = .ok (.getfield 48, 3) := by decide +kernel
theorem get_d5 : decode jdk_38_method_20_code 5 = .ok (.invokestatic 118, 3) := by decide +kernel
theorem get_d8 : decode jdk_38_method_20_code 8 = .ok (.pop, 1) := by decide +kernel
theorem get_d9 : decode jdk_38_method_20_code 9 = .ok (.aload_n 0, 1) := by decide +kernel
theorem get_d10 : decode jdk_38_method_20_code 10 = .ok (.iload_n 1, 1) := by decide +kernel
theorem get_d11 : decode jdk_38_method_20_code 11 = .ok (.invokevirtual 123, 3) := by decide +kernel
theorem get_d14 : decode jdk_38_method_20_code 14 = .ok (.areturn, 1) := by decide +kernel
theorem get_pn : plainName "java/util/ArrayList" = true := by first | (simp [plainName, overriddenIn]; done) | decide +kernel
theorem get_pd0 : parseMethodDescriptor "(II)I" = some ⟨[.int, .int], some .int⟩ := by decide +kernel
theorem get_pd1 : parseMethodDescriptor "(I)Ljava/lang/Object;" = some ⟨[.int], some (.object "java/lang/Object")⟩ := by decide +kernel
theorem get_ef (m : MethodId) (x0 : Addr) (x1 : Int32) : entryFrame m #[(.ref x0), (.int x1)] 2 = mkF m 0 #[.val (.ref x0), .val (.int x1)] [] := by first | (simp [entryFrame, mkF, argsToLocals, Value.category]; done) | rfl
set_option maxRecDepth 65536 in
set_option maxHeartbeats 40000000 in
theorem rm_get (l : Launch) (Z : State) (a0 : Array Value) (hw : ∀ d ∈ tables_1, d.before a0 Z = true) (ws : List Jvm.Cond) (r0 : Addr) (p1 : Int32) (w : Int32) (ed x : Addr) (f : Nat → Value) (h0 : Heap) (n0 : Nat) (Z0 : n0 ≤ h0.size) (H0 : Exa Z h0 r0 "java/util/ArrayList") (H1 : Fld Z h0 r0 "java/util/ArrayList" "elementData" "[Ljava/lang/Object;" (.ref ed)) (H2 : RA Z h0 ed 10 f) (H3 : Fld Z h0 r0 "java/util/ArrayList" "size" "I" (.int w)) (hin : ¬ (p1 < 0 ∨ 10 ≤ p1.toNatClampNeg)) (hfx : f p1.toNatClampNeg = .ref x) (h1 : ¬ p1 < (0 : Int32)) (h2 : p1 < w) :
    MetFree l (⟨"java/util/ArrayList", "get", "(I)Ljava/lang/Object;"⟩ : MethodName) (head1 (Jvm.Cond.code (⟨"java/util/ArrayList", "get", "(I)Ljava/lang/Object;"⟩ : MethodName) jdk_38_method_20_code 2 (some (.object "java/lang/Object")) :: ws) ({ frames := 2, cells := 0, slots := 0, locals := 27 } : Room)) (fun a U => a = #[(.ref r0), (.int p1)] ∧ Z.Warmed39 U.vm ∧ U.heap = h0) (fun _ _ _ _ _ => True) (fun _ U o U' => ∃ v L, o = .returned v ∧ QP (.ref x) h0 n0 v U'.heap L ∧ FrameEnd U o U' L ({ frames := 2, cells := 0, slots := 0, locals := 27 } : Room).cells ({ frames := 2, cells := 0, slots := 0, locals := 27 } : Room).slots) := by
  refine MetFree.of_bodySF (plainFor_of_name get_pn) hisR ?_
  intro p e s m args below meth c s₁ Bd hml0 hP hK
  obtain ⟨rfl, hZ, hh⟩ := hP
  have hx := Bd.exec
  have hby := Bd.bytes
  have hml : c.maxLocals = 2 := hml0
  have hown : s.vm.findClass "java/util/ArrayList" = some m.cls := findClass_of_methodNamed Bd.named
  have hnm := (name_of_methodNamed Bd.named Bd.method).1
  have X0 : Stand p l e ({ frames := 2, cells := 0, slots := 0, locals := 27 } : Room) s m #[(.ref r0), (.int p1)] below meth c s₁ [] 0 0 := Stand.of_body Bd
  have e0 : s₁.heap = h0 := by rw [← hh, Bd.state]; rfl
  have N0 := Fr.nil n0
  obtain ⟨P0, hP0⟩ : ∃ P0 : State → Prop, P0 = fun t => Steps p.tables e below (s₁.setTop (entryFrame m #[(.ref r0), (.int p1)] 2)) t := ⟨_, rfl⟩
  have K0 : ∀ t, Steps p.tables e below (s₁.setTop (mkF m 0 #[.val (.ref r0), .val (.int p1)] [])) t → P0 t := by
    intro t k; rw [hP0]; exact castTop (get_ef m r0 p1) k
  obtain ⟨T1, X1, e1, st1⟩ := getF X0 hx hZ hown (host := "") (Or.inl (hw _ (gw 43 rfl))) Via.refl e0 H3 (g := (mkF m 2 #[.val (.ref r0), .val (.int p1)] [(.ref r0), (.int p1)])) rfl rfl (hb hby get_d2)
  obtain ⟨_, _, ⟨T2, L2, k2, n2⟩, -, X2, ⟨Lc2, hQ2, l2, y2, z2⟩, st2⟩ := Jvm.LawKit.callS X1 hx (y := (⟨"java/util/Objects", "checkIndex", "(II)I"⟩ : MethodName)) hown (mvT hZ (hw _ (gw 127 rfl))) (mvT hZ (hw _ (gw 128 rfl))) (mvT hZ (hw _ (gw 129 rfl))) (mvT hZ (hw _ (gw 130 rfl))) (by decide) (backOf (W := 0) (rm_oci l Z a0 hw [] p1 w h0 n0 Z0 h1 h2) hZ (hw _ (gw 130 rfl)) (hw _ (gw 129 rfl)) (by decide) (by decide)) (g := (mkF m 5 #[.val (.ref r0), .val (.int p1)] [(.int w), (.int p1)])) rfl (by rw [hml]; rfl) (argsL := [(.int p1), (.int w)]) (rest := []) (lenOf get_pd0 rfl) rfl (by show 2 * 0 + _ ≤ _; exact Nat.le_of_eq rfl) (hb hby get_d5) (fun _ _ => ⟨rfl, e1, (by decide : 0 + 0 ≤ _), (by decide : 0 + 0 ≤ _)⟩)
  dsimp only [Pt.U, Pt.locs, Pt.cells, Pt.slots] at X2 l2 y2 z2 st2 hQ2
  rw [l2, y2, z2] at X2
  obtain ⟨rfl, N2q, e2⟩ := hQ2
  have N2 := Fr.app N0 N2q
  obtain ⟨cq3, kq3, q3a, q3b, q3c⟩ := isOf hZ e2 H0
  obtain ⟨_, _, ⟨T3, L3, k3, n3⟩, -, X3, ⟨Lc3, hQ3, l3, y3, z3⟩, st3⟩ := X2.virtualBack hx (y := (⟨"java/util/ArrayList", "elementData", "(I)Ljava/lang/Object;"⟩ : MethodName)) (z := (⟨"java/util/ArrayList", "elementData", "(I)Ljava/lang/Object;"⟩ : MethodName)) hown (mvT hZ (hw _ (gw 135 rfl))) (mvT hZ (hw _ (gw 136 rfl))) (notFace_of_selects (args := #[]) (mvT hZ (hw _ (gw 138 rfl)))) (mvT hZ (hw _ (gw 138 rfl))) (mvT hZ (hw _ (gw 137 rfl))) (by decide) (backOf (W := 0) (rm_eld l Z a0 hw [] r0 p1 ed x f h0 n0 Z0 H1 H2 hin hfx) hZ (hw _ (gw 139 rfl)) (hw _ (gw 3 rfl)) (by decide) (by decide)) q3a q3c (g := (mkF m 11 #[.val (.ref r0), .val (.int p1)] [(.int p1), (.ref r0)])) rfl (by rw [hml]; rfl) (Steps.refl _) (argsL := [(.int p1)]) (rest := []) (lenOf get_pd1 rfl) rfl (by show 2 * 0 + _ ≤ _; exact Nat.le_of_eq rfl) (hb hby get_d11) (fun _ _ => ⟨rfl, e2, (by decide : 0 + 0 ≤ _), (by decide : 0 + 0 ≤ _)⟩)
  dsimp only [Pt.U, Pt.locs, Pt.cells, Pt.slots] at X3 l3 y3 z3 st3 hQ3
  rw [l3, y3, z3] at X3
  obtain ⟨rfl, N3q, e3⟩ := hQ3
  have N3 := Fr.app N2 N3q
  have K4 : ∀ t, Steps p.tables e below (T3.setTop (mkF m 14 #[.val (.ref r0), .val (.int p1)] [(.ref x)])) t → P0 t := by
    intro t kt
    refine K0 t ?_
    refine XS.iloadN X0.here hx rfl (hb hby get_d0) rfl ?_
    refine XS.aloadN X0.here hx rfl (hb hby get_d1) rfl rfl ?_
    show Steps p.tables e below (s₁.setTop (mkF m 2 #[.val (.ref r0), .val (.int p1)] [(.ref r0), (.int p1)])) t
    refine st1 _ ?_
    show Steps p.tables e below (T1.setTop (mkF m 5 #[.val (.ref r0), .val (.int p1)] [(.int w), (.int p1)])) t
    refine st2 _ ?_
    show Steps p.tables e below (T2.setTop (mkF m 8 #[.val (.ref r0), .val (.int p1)] [(.int p1)])) t
    refine XS.pop X2.here hx rfl (hb hby get_d8) rfl rfl ?_
    refine XS.aloadN X2.here hx rfl (hb hby get_d9) rfl rfl ?_
    refine XS.iloadN X2.here hx rfl (hb hby get_d10) rfl ?_
    show Steps p.tables e below (T2.setTop (mkF m 11 #[.val (.ref r0), .val (.int p1)] [(.int p1), (.ref r0)])) t
    refine st3.trans ?_
    exact kt
  obtain ⟨fs, hr, hrun, hended, hW, hsame⟩ := X3.leave (v := some (.ref x)) (fun h => by rw [Bd.returns] at h; cases h)
  refine ⟨_, _, ?_, hrun, hended, _, _, rfl, ?_, ⟨_, rfl⟩, hW, hsame.mono (by decide) (by decide)⟩
  · skip
    have q := K4 _ (retOut X3 hx Bd.returns rfl (Or.inr (Or.inr (Or.inr (Or.inr ⟨rfl, rfl, rfl⟩)))) (hb hby get_d14) hr)
    rw [hP0] at q; exact q
  · show QP _ h0 n0 _ T3.heap _
    rw [e3]
    exact ⟨rfl, N3, rfl⟩
theorem dcn_d0 : decode prog_28_method_11_code 0 = .ok (.aload_n 0, 1) := by decide +kernel
theorem dcn_d1 : decode prog_28_method_11_code 1 = .ok (.getfield 13, 3) := by decide +kernel
theorem dcn_d4 : decode prog_28_method_11_code 4 = .ok (.ireturn, 1) := by decide +kernel
theorem dcn_pn : plainName "com/example/termwright/termwright/Commit$Segment" = true := by first | (simp [plainName, overriddenIn]; done) | decide +kernel
theorem dcn_ef (m : MethodId) (x0 : Addr) : entryFrame m #[(.ref x0)] 1 = mkF m 0 #[.val (.ref x0)] [] := by first | (simp [entryFrame, mkF, argsToLocals, Value.category]; done) | rfl
set_option maxRecDepth 65536 in
set_option maxHeartbeats 40000000 in
theorem rm_dcn (l : Launch) (Z : State) (a0 : Array Value) (hw : ∀ d ∈ tables_1, d.before a0 Z = true) (ws : List Jvm.Cond) (r0 : Addr) (w : Int32) (h0 : Heap) (n0 : Nat) (Z0 : n0 ≤ h0.size) (H0 : Fld Z h0 r0 "com/example/termwright/termwright/Commit$Segment" "documentCount" "I" (.int w)) :
    MetFree l (⟨"com/example/termwright/termwright/Commit$Segment", "documentCount", "()I"⟩ : MethodName) (head1 (Jvm.Cond.code (⟨"com/example/termwright/termwright/Commit$Segment", "documentCount", "()I"⟩ : MethodName) prog_28_method_11_code 1 (some .int) :: ws) ({ frames := 0, cells := 0, slots := 0, locals := 0 } : Room)) (fun a U => a = #[(.ref r0)] ∧ Z.Warmed39 U.vm ∧ U.heap = h0) (fun _ _ _ _ _ => True) (fun _ U o U' => ∃ v L, o = .returned v ∧ QP (.int w) h0 n0 v U'.heap L ∧ FrameEnd U o U' L ({ frames := 0, cells := 0, slots := 0, locals := 0 } : Room).cells ({ frames := 0, cells := 0, slots := 0, locals := 0 } : Room).slots) := by
  refine MetFree.of_bodySF (plainFor_of_name dcn_pn) hisR ?_
  intro p e s m args below meth c s₁ Bd hml0 hP hK
  obtain ⟨rfl, hZ, hh⟩ := hP
  have hx := Bd.exec
  have hby := Bd.bytes
  have hml : c.maxLocals = 1 := hml0
  have hown : s.vm.findClass "com/example/termwright/termwright/Commit$Segment" = some m.cls := findClass_of_methodNamed Bd.named
  have hnm := (name_of_methodNamed Bd.named Bd.method).1
  have X0 : Stand p l e ({ frames := 0, cells := 0, slots := 0, locals := 0 } : Room) s m #[(.ref r0)] below meth c s₁ [] 0 0 := Stand.of_body Bd
  have e0 : s₁.heap = h0 := by rw [← hh, Bd.state]; rfl
  have N0 := Fr.nil n0
  obtain ⟨P0, hP0⟩ : ∃ P0 : State → Prop, P0 = fun t => Steps p.tables e below (s₁.setTop (entryFrame m #[(.ref r0)] 1)) t := ⟨_, rfl⟩
  have K0 : ∀ t, Steps p.tables e below (s₁.setTop (mkF m 0 #[.val (.ref r0)] [])) t → P0 t := by
    intro t k; rw [hP0]; exact castTop (dcn_ef m r0) k
  obtain ⟨T1, X1, e1, st1⟩ := getF X0 hx hZ hown (host := "") (Or.inl (hw _ (gw 82 rfl))) Via.refl e0 H0 (g := (mkF m 1 #[.val (.ref r0)] [(.ref r0)])) rfl rfl (hb hby dcn_d1)
  have K2 : ∀ t, Steps p.tables e below (T1.setTop (mkF m 4 #[.val (.ref r0)] [(.int w)])) t → P0 t := by
    intro t kt
    refine K0 t ?_
    refine XS.aloadN X0.here hx rfl (hb hby dcn_d0) rfl rfl ?_
    show Steps p.tables e below (s₁.setTop (mkF m 1 #[.val (.ref r0)] [(.ref r0)])) t
    refine st1 _ ?_
    exact kt
  obtain ⟨fs, hr, hrun, hended, hW, hsame⟩ := X1.leave (v := some (.int w)) (fun h => by rw [Bd.returns] at h; cases h)
  refine ⟨_, _, ?_, hrun, hended, _, _, rfl, ?_, ⟨_, rfl⟩, hW, hsame.mono (by decide) (by decide)⟩
  · skip
    have q := K2 _ (retI X1 hx Bd.returns (hb hby dcn_d4) hr)
    rw [hP0] at q; exact q
  · show QP _ h0 n0 _ T1.heap _
    rw [e1]
    exact ⟨rfl, N0, rfl⟩
theorem dlc_d0 : decode prog_28_method_5_code 0 = .ok (.aload_n 0, 1) := by decide +kernel
theorem dlc_d1 : decode prog_28_method_5_code 1 = .ok (.getfield 24, 3) := by decide +kernel
theorem dlc_d4 : decode prog_28_method_5_code 4 = .ok (.ifnonnull 7, 3) := by decide +kernel
theorem dlc_d7 : decode prog_28_method_5_code 7 = .ok (.iconst 0, 1) := by decide +kernel
theorem dlc_d8 : decode prog_28_method_5_code 8 = .ok (.goto 10, 3) := by decide +kernel
theorem dlc_d18 : decode prog_28_method_5_code 18 = .ok (.ireturn, 1) := by decide +kernel
theorem dlc_pn : plainName "com/example/termwright/termwright/Commit$Segment" = true := by first | (simp [plainName, overriddenIn]; done) | decide +kernel
theorem dlc_ef (m : MethodId) (x0 : Addr) : entryFrame m #[(.ref x0)] 1 = mkF m 0 #[.val (.ref x0)] [] := by first | (simp [entryFrame, mkF, argsToLocals, Value.category]; done) | rfl
set_option maxRecDepth 65536 in
set_option maxHeartbeats 40000000 in
theorem rm_dlc (l : Launch) (Z : State) (a0 : Array Value) (hw : ∀ d ∈ tables_1, d.before a0 Z = true) (ws : List Jvm.Cond) (r0 : Addr) (h0 : Heap) (n0 : Nat) (Z0 : n0 ≤ h0.size) (H0 : Fld Z h0 r0 "com/example/termwright/termwright/Commit$Segment" "deletions" "Lcom/example/termwright/termwright/Commit$DeletionsFile;" .null) :
    MetFree l (⟨"com/example/termwright/termwright/Commit$Segment", "deletedCount", "()I"⟩ : MethodName) (head1 (Jvm.Cond.code (⟨"com/example/termwright/termwright/Commit$Segment", "deletedCount", "()I"⟩ : MethodName) prog_28_method_5_code 1 (some .int) :: ws) ({ frames := 0, cells := 0, slots := 0, locals := 0 } : Room)) (fun a U => a = #[(.ref r0)] ∧ Z.Warmed39 U.vm ∧ U.heap = h0) (fun _ _ _ _ _ => True) (fun _ U o U' => ∃ v L, o = .returned v ∧ QP (.int (0 : Int32)) h0 n0 v U'.heap L ∧ FrameEnd U o U' L ({ frames := 0, cells := 0, slots := 0, locals := 0 } : Room).cells ({ frames := 0, cells := 0, slots := 0, locals := 0 } : Room).slots) := by
  refine MetFree.of_bodySF (plainFor_of_name dlc_pn) hisR ?_
  intro p e s m args below meth c s₁ Bd hml0 hP hK
  obtain ⟨rfl, hZ, hh⟩ := hP
  have hx := Bd.exec
  have hby := Bd.bytes
  have hml : c.maxLocals = 1 := hml0
  have hown : s.vm.findClass "com/example/termwright/termwright/Commit$Segment" = some m.cls := findClass_of_methodNamed Bd.named
  have hnm := (name_of_methodNamed Bd.named Bd.method).1
  have X0 : Stand p l e ({ frames := 0, cells := 0, slots := 0, locals := 0 } : Room) s m #[(.ref r0)] below meth c s₁ [] 0 0 := Stand.of_body Bd
  have e0 : s₁.heap = h0 := by rw [← hh, Bd.state]; rfl
  have N0 := Fr.nil n0
  obtain ⟨P0, hP0⟩ : ∃ P0 : State → Prop, P0 = fun t => Steps p.tables e below (s₁.setTop (entryFrame m #[(.ref r0)] 1)) t := ⟨_, rfl⟩
  have K0 : ∀ t, Steps p.tables e below (s₁.setTop (mkF m 0 #[.val (.ref r0)] [])) t → P0 t := by
    intro t k; rw [hP0]; exact castTop (dlc_ef m r0) k
  obtain ⟨T1, X1, e1, st1⟩ := getF X0 hx hZ hown (host := "") (Or.inl (hw _ (gw 88 rfl))) Via.refl e0 H0 (g := (mkF m 1 #[.val (.ref r0)] [(.ref r0)])) rfl rfl (hb hby dlc_d1)
  have K2 : ∀ t, Steps p.tables e below (T1.setTop (mkF m 18 #[.val (.ref r0)] [(.int (0 : Int32))])) t → P0 t := by
    intro t kt
    refine K0 t ?_
    refine XS.aloadN X0.here hx rfl (hb hby dlc_d0) rfl rfl ?_
    show Steps p.tables e below (s₁.setTop (mkF m 1 #[.val (.ref r0)] [(.ref r0)])) t
    refine st1 _ ?_
    show Steps p.tables e below (T1.setTop (mkF m 4 #[.val (.ref r0)] [.null])) t
    refine XS.ifnonnullNo X1.here hx rfl (hb hby dlc_d4) rfl ?_
    refine XS.iconst X1.here hx rfl (hb hby dlc_d7) ?_
    show Steps p.tables e below (T1.setTop (mkF m 8 #[.val (.ref r0)] [(.int (0 : Int32))])) t
    refine XS.goto X1.here hx rfl (pc0 := 8) (pc' := 18) rfl (hb hby dlc_d8) (by decide) (by decide) ?_
    exact kt
  obtain ⟨fs, hr, hrun, hended, hW, hsame⟩ := X1.leave (v := some (.int (0 : Int32))) (fun h => by rw [Bd.returns] at h; cases h)
  refine ⟨_, _, ?_, hrun, hended, _, _, rfl, ?_, ⟨_, rfl⟩, hW, hsame.mono (by decide) (by decide)⟩
  · skip
    have q := K2 _ (retI X1 hx Bd.returns (hb hby dlc_d18) hr)
    rw [hP0] at q; exact q
  · show QP _ h0 n0 _ T1.heap _
    rw [e1]
    exact ⟨rfl, N0, rfl⟩
theorem adx_d0 : decode jdk_29_method_24_code 0 = .ok (.iload_n 0, 1) := by decide +kernel
theorem adx_d1 : decode jdk_29_method_24_code 1 = .ok (.iload_n 1, 1) := by decide +kernel
theorem adx_d2 : decode jdk_29_method_24_code 2 = .ok (.iadd, 1) := by decide +kernel
theorem adx_d3 : decode jdk_29_method_24_code 3 = .ok (.istore_n 2, 1) := by decide +kernel
theorem adx_d4 : decode jdk_29_method_24_code 4 = .ok (.iload_n 0, 1) := by decide +kernel
theorem adx_d5 : decode jdk_29_method_24_code 5 = .ok (.iload_n 2, 1) := by decide +kernel
theorem adx_d6 : decode jdk_29_method_24_code 6 = .ok (.ixor, 1) := by decide +kernel
theorem adx_d7 : decode jdk_29_method_24_code 7 = .ok (.iload_n 1, 1) := by decide +kernel
theorem adx_d8 : decode jdk_29_method_24_code 8 = .ok (.iload_n 2, 1) := by decide +kernel
theorem adx_d9 : decode jdk_29_method_24_code 9 = .ok (.ixor, 1) := by decide +kernel
theorem adx_d10 : decode jdk_29_method_24_code 10 = .ok (.iand, 1) := by decide +kernel
theorem adx_d11 : decode jdk_29_method_24_code 11 = .ok (.ifCond .ge 13, 3) := by decide +kernel
theorem adx_d24 : decode jdk_29_method_24_code 24 = .ok (.iload_n 2, 1) := by decide +kernel
theorem adx_d25 : decode jdk_29_method_24_code 25 = .ok (.ireturn, 1) := by decide +kernel
theorem adx_ef (m : MethodId) (x0 : Int32) (x1 : Int32) : entryFrame m #[(.int x0), (.int x1)] 3 = mkF m 0 #[.val (.int x0), .val (.int x1), .unset] [] := by first | (simp [entryFrame, mkF, argsToLocals, Value.category]; done) | rfl
set_option maxRecDepth 65536 in
set_option maxHeartbeats 40000000 in
theorem rm_adx (l : Launch) (Z : State) (a0 : Array Value) (hw : ∀ d ∈ tables_1, d.before a0 Z = true) (ws : List Jvm.Cond) (p0 : Int32) (p1 : Int32) (h0 : Heap) (n0 : Nat) (Z0 : n0 ≤ h0.size) (hs : NO p0 p1) :
    MetFree l (⟨"java/lang/Math", "addExact", "(II)I"⟩ : MethodName) (head1 (Jvm.Cond.code (⟨"java/lang/Math", "addExact", "(II)I"⟩ : MethodName) jdk_29_method_24_code 3 (some .int) :: ws) ({ frames := 0, cells := 0, slots := 0, locals := 0 } : Room)) (fun a U => a = #[(.int p0), (.int p1)] ∧ Z.Warmed39 U.vm ∧ U.heap = h0) (fun _ _ _ _ _ => True) (fun _ U o U' => ∃ v L, o = .returned v ∧ QP (.int (p0 + p1)) h0 n0 v U'.heap L ∧ FrameEnd U o U' L ({ frames := 0, cells := 0, slots := 0, locals := 0 } : Room).cells ({ frames := 0, cells := 0, slots := 0, locals := 0 } : Room).slots) := by
  refine MetFree.of_bodySF (Jvm.Free.JP.mathPlain rfl (by decide +kernel)) hisR ?_
  intro p e s m args below meth c s₁ Bd hml0 hP hK
  obtain ⟨rfl, hZ, hh⟩ := hP
  have hx := Bd.exec
  have hby := Bd.bytes
  have hml : c.maxLocals = 3 := hml0
  have hown : s.vm.findClass "java/lang/Math" = some m.cls := findClass_of_methodNamed Bd.named
  have hnm := (name_of_methodNamed Bd.named Bd.method).1
  have X0 : Stand p l e ({ frames := 0, cells := 0, slots := 0, locals := 0 } : Room) s m #[(.int p0), (.int p1)] below meth c s₁ [] 0 0 := Stand.of_body Bd
  have e0 : s₁.heap = h0 := by rw [← hh, Bd.state]; rfl
  have N0 := Fr.nil n0
  obtain ⟨P0, hP0⟩ : ∃ P0 : State → Prop, P0 = fun t => Steps p.tables e below (s₁.setTop (entryFrame m #[(.int p0), (.int p1)] 3)) t := ⟨_, rfl⟩
  have K0 : ∀ t, Steps p.tables e below (s₁.setTop (mkF m 0 #[.val (.int p0), .val (.int p1), .unset] [])) t → P0 t := by
    intro t k; rw [hP0]; exact castTop (adx_ef m p0 p1) k
  have K1 : ∀ t, Steps p.tables e below (s₁.setTop (mkF m 4 #[.val (.int p0), .val (.int p1), .val (.int (p0 + p1))] [])) t → P0 t := by
    intro t kt
    refine K0 t ?_
    refine XS.iloadN X0.here hx rfl (hb hby adx_d0) rfl ?_
    refine XS.iloadN X0.here hx rfl (hb hby adx_d1) rfl ?_
    show Steps p.tables e below (s₁.setTop (mkF m 2 #[.val (.int p0), .val (.int p1), .unset] [(.int p1), (.int p0)])) t
    refine XS.iadd X0.here hx rfl (hb hby adx_d2) rfl ?_
    show Steps p.tables e below (s₁.setTop (mkF m 3 #[.val (.int p0), .val (.int p1), .unset] [(.int (p0 + p1))])) t
    refine XS.istoreN X0.here hx rfl (hb hby adx_d3) rfl (l' := #[.val (.int p0), .val (.int p1), .val (.int (p0 + p1))]) rfl ?_
    exact kt
  obtain ⟨v3, hv3, K2⟩ : ∃ v3 : Int32, v3 = (p0 + p1) ∧ ∀ t, Steps p.tables e below (s₁.setTop (mkF m 4 #[.val (.int p0), .val (.int p1), .val (.int v3)] [])) t → P0 t := ⟨_, rfl, K1⟩
  have K3 : ∀ t, Steps p.tables e below (s₁.setTop (mkF m 25 #[.val (.int p0), .val (.int p1), .val (.int v3)] [(.int v3)])) t → P0 t := by
    intro t kt
    refine K2 t ?_
    refine XS.iloadN X0.here hx rfl (hb hby adx_d4) rfl ?_
    refine XS.iloadN X0.here hx rfl (hb hby adx_d5) rfl ?_
    show Steps p.tables e below (s₁.setTop (mkF m 6 #[.val (.int p0), .val (.int p1), .val (.int v3)] [(.int v3), (.int p0)])) t
    refine XS.ixor X0.here hx rfl (hb hby adx_d6) rfl ?_
    refine XS.iloadN X0.here hx rfl (hb hby adx_d7) rfl ?_
    refine XS.iloadN X0.here hx rfl (hb hby adx_d8) rfl ?_
    show Steps p.tables e below (s₁.setTop (mkF m 9 #[.val (.int p0), .val (.int p1), .val (.int v3)] [(.int v3), (.int p1), (.int (p0 ^^^ v3))])) t
    refine XS.ixor X0.here hx rfl (hb hby adx_d9) rfl ?_
    show Steps p.tables e below (s₁.setTop (mkF m 10 #[.val (.int p0), .val (.int p1), .val (.int v3)] [(.int (p1 ^^^ v3)), (.int (p0 ^^^ v3))])) t
    refine XS.iand X0.here hx rfl (hb hby adx_d10) rfl ?_
    show Steps p.tables e below (s₁.setTop (mkF m 11 #[.val (.int p0), .val (.int p1), .val (.int v3)] [(.int ((p0 ^^^ v3) &&& (p1 ^^^ v3)))])) t
    refine XS.ifYes X0.here hx rfl (pc0 := 11) (pc' := 24) rfl (hb hby adx_d11) rfl ((if0 _ _).trans (flt (by rw [hv3]; exact hs)).2.1) (by decide) (by decide) ?_
    refine XS.iloadN X0.here hx rfl (hb hby adx_d24) rfl ?_
    exact kt
  obtain ⟨fs, hr, hrun, hended, hW, hsame⟩ := X0.leave (v := some (.int v3)) (fun h => by rw [Bd.returns] at h; cases h)
  refine ⟨_, _, ?_, hrun, hended, _, _, rfl, ?_, ⟨_, rfl⟩, hW, hsame.mono (by decide) (by decide)⟩
  · skip
    have q := K3 _ (retI X0 hx Bd.returns (hb hby adx_d25) hr)
    rw [hP0] at q; exact q
  · show QP _ h0 n0 _ s₁.heap _
    rw [e0]
    subst hv3
    exact ⟨rfl, N0, rfl⟩
def fB0 : Nat → Int32 :=
  let f11 : Nat → Int32 := (fun _ => (0 : Int32))
  f11
def QDn0 (Z : State) (r0 : Addr) (h0 : Heap) (n0 : Nat) (v : Option Value) (h : Heap) (L : List Loc) : Prop := ∃ b : Addr, v = none ∧ Fr n0 L ∧ Keep h0 h [r0] ∧ h0.size ≤ b ∧ Exa Z h r0 "com/example/termwright/termwright/DocumentNumbers" ∧ Fld Z h r0 "com/example/termwright/termwright/DocumentNumbers" "bases" "[I" (.ref b) ∧ IA Z h b .int 0 fB0
theorem dn_d0 : decode prog_33_method_1_code 0 = .ok (.aload_n 0, 1) := by decide +kernel
theorem dn_d1 : decode prog_33_method_1_code 1 = .ok (.invokespecial 1, 3) := by decide +kernel
theorem dn_d4 : decode prog_33_method_1_code 4 = .ok (.aload_n 0, 1) := by decide +kernel
theorem dn_d5 : decode prog_33_method_1_code 5 = .ok (.aload_n 1, 1) := by decide +kernel
theorem dn_d6 : decode prog_33_method_1_code 6 = .ok (.invokeinterface 7 1, 5) := by decide +kernel
theorem dn_d11 : decode prog_33_method_1_code 11 = .ok (.newarray .int, 2) := by decide +kernel
theorem dn_d13 : decode prog_33_method_1_code 13 = .ok (.putfield 13, 3) := by decide +kernel
theorem dn_d16 : decode prog_33_method_1_code 16 = .ok (.iconst 0, 1) := by decide +kernel
theorem dn_d17 : decode prog_33_method_1_code 17 = .ok (.istore_n 2, 1) := by decide +kernel
theorem dn_d18 : decode prog_33_method_1_code 18 = .ok (.iconst 0, 1) := by decide +kernel
theorem dn_d19 : decode prog_33_method_1_code 19 = .ok (.istore_n 3, 1) := by decide +kernel
theorem dn_d20 : decode prog_33_method_1_code 20 = .ok (.iconst 0, 1) := by decide +kernel
theorem dn_d21 : decode prog_33_method_1_code 21 = .ok (.istore 4, 2) := by decide +kernel
theorem dn_d23 : decode prog_33_method_1_code 23 = .ok (.iload 4, 2) := by decide +kernel
theorem dn_d25 : decode prog_33_method_1_code 25 = .ok (.aload_n 1, 1) := by decide +kernel
theorem dn_d26 : decode prog_33_method_1_code 26 = .ok (.invokeinterface 7 1, 5) := by decide +kernel
theorem dn_d31 : decode prog_33_method_1_code 31 = .ok (.if_icmp .ge 53, 3) := by decide +kernel
theorem dn_d84 : decode prog_33_method_1_code 84 = .ok (.aload_n 0, 1) := by decide +kernel
theorem dn_d85 : decode prog_33_method_1_code 85 = .ok (.iload_n 2, 1) := by decide +kernel
theorem dn_d86 : decode prog_33_method_1_code 86 = .ok (.putfield 37, 3) := by decide +kernel
theorem dn_d89 : decode prog_33_method_1_code 89 = .ok (.aload_n 0, 1) := by decide +kernel
theorem dn_d90 : decode prog_33_method_1_code 90 = .ok (.iload_n 3, 1) := by decide +kernel
theorem dn_d91 : decode prog_33_method_1_code 91 = .ok (.putfield 41, 3) := by decide +kernel
theorem dn_d94 : decode prog_33_method_1_code 94 = .ok (.return_, 1) := by decide +kernel
theorem dn0_pn : plainName "com/example/termwright/termwright/DocumentNumbers" = true := by first | (simp [plainName, overriddenIn]; done) | decide +kernel
theorem dn0_pd0 : parseMethodDescriptor "()I" = some ⟨[], some .int⟩ := by decide +kernel
theorem dn0_ef (m : MethodId) (x0 : Addr) (x1 : Addr) : entryFrame m #[(.ref x0), (.ref x1)] 5 = mkF m 0 #[.val (.ref x0), .val (.ref x1), .unset, .unset, .unset] [] := by first | (simp [entryFrame, mkF, argsToLocals, Value.category]; done) | rfl
set_option maxRecDepth 65536 in
set_option maxHeartbeats 40000000 in
theorem rm_dn0 (l : Launch) (Z : State) (a0 : Array Value) (hw : ∀ d ∈ tables_1, d.before a0 Z = true) (ws : List Jvm.Cond) (r0 : Addr) (r1 : Addr) (u0 u1 u2 : Value) (h0 : Heap) (n0 : Nat) (Z0 : n0 ≤ h0.size) (H0 : Exa Z h0 r0 "com/example/termwright/termwright/DocumentNumbers") (H1 : Fld Z h0 r0 "com/example/termwright/termwright/DocumentNumbers" "bases" "[I" u0) (H2 : Fld Z h0 r0 "com/example/termwright/termwright/DocumentNumbers" "count" "I" u1) (H3 : Fld Z h0 r0 "com/example/termwright/termwright/DocumentNumbers" "deletedCount" "I" u2) (H4 : Exa Z h0 r1 "java/util/ArrayList") (H5 : Fld Z h0 r1 "java/util/ArrayList" "size" "I" (.int (0 : Int32))) (g_r0 : n0 ≤ r0) (n_r0_r1 : r0 ≠ r1) :
    MetFree l (⟨"com/example/termwright/termwright/DocumentNumbers", "<init>", "(Ljava/util/List;)V"⟩ : MethodName) (head1 (Jvm.Cond.code (⟨"com/example/termwright/termwright/DocumentNumbers", "<init>", "(Ljava/util/List;)V"⟩ : MethodName) prog_33_method_1_code 5 none :: ws) ({ frames := 1, cells := 1, slots := 0, locals := 13 } : Room)) (fun a U => a = #[(.ref r0), (.ref r1)] ∧ Z.Warmed39 U.vm ∧ U.heap = h0) (fun _ _ _ _ _ => True) (fun _ U o U' => ∃ v L, o = .returned v ∧ QDn0 Z r0 h0 n0 v U'.heap L ∧ FrameEnd U o U' L ({ frames := 1, cells := 1, slots := 0, locals := 13 } : Room).cells ({ frames := 1, cells := 1, slots := 0, locals := 13 } : Room).slots) := by
  refine MetFree.of_bodySF (plainFor_of_name dn0_pn) hisR ?_
  intro p e s m args below meth c s₁ Bd hml0 hP hK
  obtain ⟨rfl, hZ, hh⟩ := hP
  have hx := Bd.exec
  have hby := Bd.bytes
  have hml : c.maxLocals = 5 := hml0
  have hown : s.vm.findClass "com/example/termwright/termwright/DocumentNumbers" = some m.cls := findClass_of_methodNamed Bd.named
  have hnm := (name_of_methodNamed Bd.named Bd.method).1
  have X0 : Stand p l e ({ frames := 1, cells := 1, slots := 0, locals := 13 } : Room) s m #[(.ref r0), (.ref r1)] below meth c s₁ [] 0 0 := Stand.of_body Bd
  have e0 : s₁.heap = h0 := by rw [← hh, Bd.state]; rfl
  have N0 := Fr.nil n0
  obtain ⟨P0, hP0⟩ : ∃ P0 : State → Prop, P0 = fun t => Steps p.tables e below (s₁.setTop (entryFrame m #[(.ref r0), (.ref r1)] 5)) t := ⟨_, rfl⟩
  have K0 : ∀ t, Steps p.tables e below (s₁.setTop (mkF m 0 #[.val (.ref r0), .val (.ref r1), .unset, .unset, .unset] [])) t → P0 t := by
    intro t k; rw [hP0]; exact castTop (dn0_ef m r0 r1) k
  obtain ⟨T1, X1, e1, st1⟩ := initO X0 hx hZ hown (hw _ (gw 33 rfl)) (hw _ (gw 20 rfl)) (hw _ (gw 21 rfl)) e0 (g := (mkF m 1 #[.val (.ref r0), .val (.ref r1), .unset, .unset, .unset] [(.ref r0)])) rfl (by rw [hml]; rfl) rfl (hb hby dn_d1) (by decide) (W := 0) (by show 2 * 0 + _ ≤ _; exact Nat.le_of_eq rfl) (by decide)
  obtain ⟨cq2, kq2, q2a, q2b, q2c⟩ := isOf hZ e1 H4
  obtain ⟨_, _, ⟨T2, L2, k2, n2⟩, -, X2, ⟨Lc2, hQ2, l2, y2, z2⟩, st2⟩ := X1.interfaceBack hx (xi := (⟨"java/util/List", "size", "()I"⟩ : MethodName)) (y := (⟨"java/util/ArrayList", "size", "()I"⟩ : MethodName)) hown (mvT hZ (hw _ (gw 34 rfl))) (mvT hZ (hw _ (gw 35 rfl))) (mvT hZ (hw _ (gw 36 rfl))) (mvT hZ (hw _ (gw 37 rfl))) (mvT hZ (hw _ (gw 38 rfl))) (mvT hZ (hw _ (gw 39 rfl))) (mvT hZ (hw _ (gw 40 rfl))) (mvT hZ (hw _ (gw 41 rfl))) (by decide) (backOf (W := 1) (rm_siz l Z a0 hw [] r1 (0 : Int32) h0 n0 Z0 H5) hZ (hw _ (gw 42 rfl)) (hw _ (gw 3 rfl)) (by decide) (by decide)) q2a q2b q2c (g := (mkF m 6 #[.val (.ref r0), .val (.ref r1), .unset, .unset, .unset] [(.ref r1), (.ref r0)])) rfl (by rw [hml]; rfl) (Steps.refl _) (argsL := []) (rest := [(.ref r0)]) (lenOf dn0_pd0 rfl) rfl (by show 2 * 0 + _ ≤ _; exact Nat.le_of_eq rfl) (hb hby dn_d6) (fun _ _ => ⟨rfl, e1, (by decide : 0 + 0 ≤ _), (by decide : 0 + 0 ≤ _)⟩)
  dsimp only [Pt.U, Pt.locs, Pt.cells, Pt.slots] at X2 l2 y2 z2 st2 hQ2
  rw [l2, y2, z2] at X2
  obtain ⟨rfl, N2q, e2⟩ := hQ2
  have N2 := Fr.app N0 N2q
  obtain ⟨T3, h3, k3, X3, e3, E3, A3, st3⟩ := newP X2 hx hZ (hw _ (gw 45 rfl)) e2 (g := (mkF m 11 #[.val (.ref r0), .val (.ref r1), .unset, .unset, .unset] [(.int (0 : Int32)), (.ref r0)])) rfl (hb hby dn_d11) rfl (by decide) (cap := 0) (by decide) (by decide) (by decide) (by decide)
  obtain ⟨b11, g3⟩ : ∃ z, z = h0.size := ⟨_, rfl⟩
  have g_b11 : n0 ≤ b11 := Nat.le_trans Z0 (Nat.le_of_eq g3.symm)
  have ne_r0_b11 : r0 ≠ b11 := Nat.ne_of_lt (Nat.lt_of_lt_of_le H0.lt (Nat.le_of_eq g3.symm))
  have ne_r1_b11 : r1 ≠ b11 := Nat.ne_of_lt (Nat.lt_of_lt_of_le H4.lt (Nat.le_of_eq g3.symm))
  rw [← g3] at A3 st3
  have sz_b11 : h0.size ≤ b11 := Nat.le_trans (Keep.refl h0 [r0]).1 (Nat.le_of_eq g3.symm)
  have Z3 : n0 ≤ h3.size := Nat.le_trans Z0 E3.1
  have F4 := Exa.ext E3 H0
  have F5 := Fld.ext E3 H1
  have F6 := Fld.ext E3 H2
  have F7 := Fld.ext E3 H3
  have F8 := Exa.ext E3 H4
  have F9 := Fld.ext E3 H5
  obtain ⟨f11, hf11, V3⟩ : ∃ f11 : Nat → Int32, f11 = (fun _ => 0) ∧ IA Z h3 b11 .int 0 f11 := ⟨_, rfl, IA.new A3 rfl rfl (by decide)⟩
  have Kp3 : Keep h0 h3 [r0] := (Keep.refl h0 [r0]).ext E3
  obtain ⟨T10, h10, X10, e10, W10, st10⟩ := putF X3 hx hZ hown (host := "") (Or.inl (hw _ (gw 46 rfl))) Via.refl e3 F5 F4 (Or.inr ⟨(hw _ (gw 47 rfl)), rfl, hnm⟩) (hw _ (gw 28 rfl)) (ty := (.array .int)) (by decide) rfl rfl (g := (mkF m 13 #[.val (.ref r0), .val (.ref r1), .unset, .unset, .unset] [(.ref b11), (.ref r0)])) rfl rfl (hb hby dn_d13)
  have Z10 : n0 ≤ h10.size := Nat.le_trans Z3 (Keep.of_wr W10).1
  have N10 := Fr.snoc X10 N2 g_r0
  have F11 := Exa.wr W10 F4
  have F12 := Fld.other W10 F6 (Or.inr (slot_ne (Or.inr (hw _ (gw 49 rfl))) (Or.inr (hw _ (gw 47 rfl))) (by decide) (t := .int) (t' := (.array .int)) (by decide) (by decide)))
  have F13 := Fld.other W10 F7 (Or.inr (slot_ne (Or.inr (hw _ (gw 51 rfl))) (Or.inr (hw _ (gw 47 rfl))) (by decide) (t := .int) (t' := (.array .int)) (by decide) (by decide)))
  have F14 := Exa.wr W10 F8
  have F15 := Fld.other W10 F9 (Or.inl (Ne.symm n_r0_r1))
  have F16 := V3.other W10 (Ne.symm ne_r0_b11)
  have Kp10 : Keep h0 h10 [r0] := Kp3.wr W10 (Or.inl (List.mem_of_getElem? (i := 0) rfl))
  have F17 : Fld Z h10 r0 "com/example/termwright/termwright/DocumentNumbers" "bases" "[I" (.ref b11) := Fld.same W10 F5
  obtain ⟨cq18, kq18, q18a, q18b, q18c⟩ := isOf hZ e10 F14
  obtain ⟨_, _, ⟨T18, L18, k18, n18⟩, -, X18, ⟨Lc18, hQ18, l18, y18, z18⟩, st18⟩ := X10.interfaceBack hx (xi := (⟨"java/util/List", "size", "()I"⟩ : MethodName)) (y := (⟨"java/util/ArrayList", "size", "()I"⟩ : MethodName)) hown (mvT hZ (hw _ (gw 34 rfl))) (mvT hZ (hw _ (gw 35 rfl))) (mvT hZ (hw _ (gw 36 rfl))) (mvT hZ (hw _ (gw 37 rfl))) (mvT hZ (hw _ (gw 38 rfl))) (mvT hZ (hw _ (gw 39 rfl))) (mvT hZ (hw _ (gw 40 rfl))) (mvT hZ (hw _ (gw 41 rfl))) (by decide) (backOf (W := 1) (rm_siz l Z a0 hw [] r1 (0 : Int32) h10 n0 Z10 F15) hZ (hw _ (gw 42 rfl)) (hw _ (gw 3 rfl)) (by decide) (by decide)) q18a q18b q18c (g := (mkF m 26 #[.val (.ref r0), .val (.ref r1), .val (.int (0 : Int32)), .val (.int (0 : Int32)), .val (.int (0 : Int32))] [(.ref r1), (.int (0 : Int32))])) rfl (by rw [hml]; rfl) (Steps.refl _) (argsL := []) (rest := [(.int (0 : Int32))]) (lenOf dn0_pd0 rfl) rfl (by show 2 * 0 + _ ≤ _; exact Nat.le_of_eq rfl) (hb hby dn_d26) (fun _ _ => ⟨rfl, e10, (by decide : 1 + 0 ≤ _), (by decide : 0 + 0 ≤ _)⟩)
  dsimp only [Pt.U, Pt.locs, Pt.cells, Pt.slots] at X18 l18 y18 z18 st18 hQ18
  rw [l18, y18, z18] at X18
  obtain ⟨rfl, N18q, e18⟩ := hQ18
  have N18 := Fr.app N10 N18q
  obtain ⟨T19, h19, X19, e19, W19, st19⟩ := putF X18 hx hZ hown (host := "") (Or.inl (hw _ (gw 48 rfl))) Via.refl e18 F12 F11 (Or.inr ⟨(hw _ (gw 49 rfl)), rfl, hnm⟩) (hw _ (gw 28 rfl)) (ty := .int) (by decide) rfl rfl (g := (mkF m 86 #[.val (.ref r0), .val (.ref r1), .val (.int (0 : Int32)), .val (.int (0 : Int32)), .val (.int (0 : Int32))] [(.int (0 : Int32)), (.ref r0)])) rfl rfl (hb hby dn_d86)
  have Z19 : n0 ≤ h19.size := Nat.le_trans Z10 (Keep.of_wr W19).1
  have N19 := Fr.snoc X19 N18 g_r0
  have F20 := Exa.wr W19 F11
  have F21 := Fld.other W19 F17 (Or.inr (slot_ne (Or.inr (hw _ (gw 47 rfl))) (Or.inr (hw _ (gw 49 rfl))) (by decide) (t := (.array .int)) (t' := .int) (by decide) (by decide)))
  have F22 := Fld.other W19 F13 (Or.inr (slot_ne (Or.inr (hw _ (gw 51 rfl))) (Or.inr (hw _ (gw 49 rfl))) (by decide) (t := .int) (t' := .int) (by decide) (by decide)))
  have F23 := Exa.wr W19 F14
  have F24 := Fld.other W19 F15 (Or.inl (Ne.symm n_r0_r1))
  have F25 := F16.other W19 (Ne.symm ne_r0_b11)
  have Kp19 : Keep h0 h19 [r0] := Kp10.wr W19 (Or.inl (List.mem_of_getElem? (i := 0) rfl))
  have F26 : Fld Z h19 r0 "com/example/termwright/termwright/DocumentNumbers" "count" "I" (.int (0 : Int32)) := Fld.same W19 F12
  obtain ⟨T27, h27, X27, e27, W27, st27⟩ := putF X19 hx hZ hown (host := "") (Or.inl (hw _ (gw 50 rfl))) Via.refl e19 F22 F20 (Or.inr ⟨(hw _ (gw 51 rfl)), rfl, hnm⟩) (hw _ (gw 28 rfl)) (ty := .int) (by decide) rfl rfl (g := (mkF m 91 #[.val (.ref r0), .val (.ref r1), .val (.int (0 : Int32)), .val (.int (0 : Int32)), .val (.int (0 : Int32))] [(.int (0 : Int32)), (.ref r0)])) rfl rfl (hb hby dn_d91)
  have Z27 : n0 ≤ h27.size := Nat.le_trans Z19 (Keep.of_wr W27).1
  have N27 := Fr.snoc X27 N19 g_r0
  have F28 := Exa.wr W27 F20
  have F29 := Fld.other W27 F21 (Or.inr (slot_ne (Or.inr (hw _ (gw 47 rfl))) (Or.inr (hw _ (gw 51 rfl))) (by decide) (t := (.array .int)) (t' := .int) (by decide) (by decide)))
  have F30 := Fld.other W27 F26 (Or.inr (slot_ne (Or.inr (hw _ (gw 49 rfl))) (Or.inr (hw _ (gw 51 rfl))) (by decide) (t := .int) (t' := .int) (by decide) (by decide)))
  have F31 := Exa.wr W27 F23
  have F32 := Fld.other W27 F24 (Or.inl (Ne.symm n_r0_r1))
  have F33 := F25.other W27 (Ne.symm ne_r0_b11)
  have Kp27 : Keep h0 h27 [r0] := Kp19.wr W27 (Or.inl (List.mem_of_getElem? (i := 0) rfl))
  have F34 : Fld Z h27 r0 "com/example/termwright/termwright/DocumentNumbers" "deletedCount" "I" (.int (0 : Int32)) := Fld.same W27 F22
  have K35 : ∀ t, Steps p.tables e below (T27.setTop (mkF m 94 #[.val (.ref r0), .val (.ref r1), .val (.int (0 : Int32)), .val (.int (0 : Int32)), .val (.int (0 : Int32))] [])) t → P0 t := by
    intro t kt
    refine K0 t ?_
    refine XS.aloadN X0.here hx rfl (hb hby dn_d0) rfl rfl ?_
    show Steps p.tables e below (s₁.setTop (mkF m 1 #[.val (.ref r0), .val (.ref r1), .unset, .unset, .unset] [(.ref r0)])) t
    refine st1 _ ?_
    refine XS.aloadN X1.here hx rfl (hb hby dn_d4) rfl rfl ?_
    refine XS.aloadN X1.here hx rfl (hb hby dn_d5) rfl rfl ?_
    show Steps p.tables e below (T1.setTop (mkF m 6 #[.val (.ref r0), .val (.ref r1), .unset, .unset, .unset] [(.ref r1), (.ref r0)])) t
    refine st2.trans ?_
    show Steps p.tables e below (T2.setTop (mkF m 11 #[.val (.ref r0), .val (.ref r1), .unset, .unset, .unset] [(.int (0 : Int32)), (.ref r0)])) t
    refine st3 _ ?_
    show Steps p.tables e below (T3.setTop (mkF m 13 #[.val (.ref r0), .val (.ref r1), .unset, .unset, .unset] [(.ref b11), (.ref r0)])) t
    refine st10 _ ?_
    refine XS.iconst X10.here hx rfl (hb hby dn_d16) ?_
    show Steps p.tables e below (T10.setTop (mkF m 17 #[.val (.ref r0), .val (.ref r1), .unset, .unset, .unset] [(.int (0 : Int32))])) t
    refine XS.istoreN X10.here hx rfl (hb hby dn_d17) rfl (l' := #[.val (.ref r0), .val (.ref r1), .val (.int (0 : Int32)), .unset, .unset]) rfl ?_
    refine XS.iconst X10.here hx rfl (hb hby dn_d18) ?_
    show Steps p.tables e below (T10.setTop (mkF m 19 #[.val (.ref r0), .val (.ref r1), .val (.int (0 : Int32)), .unset, .unset] [(.int (0 : Int32))])) t
    refine XS.istoreN X10.here hx rfl (hb hby dn_d19) rfl (l' := #[.val (.ref r0), .val (.ref r1), .val (.int (0 : Int32)), .val (.int (0 : Int32)), .unset]) rfl ?_
    refine XS.iconst X10.here hx rfl (hb hby dn_d20) ?_
    show Steps p.tables e below (T10.setTop (mkF m 21 #[.val (.ref r0), .val (.ref r1), .val (.int (0 : Int32)), .val (.int (0 : Int32)), .unset] [(.int (0 : Int32))])) t
    refine XS.istore X10.here hx rfl (hb hby dn_d21) rfl (l' := #[.val (.ref r0), .val (.ref r1), .val (.int (0 : Int32)), .val (.int (0 : Int32)), .val (.int (0 : Int32))]) rfl ?_
    refine XS.iload X10.here hx rfl (hb hby dn_d23) rfl ?_
    refine XS.aloadN X10.here hx rfl (hb hby dn_d25) rfl rfl ?_
    show Steps p.tables e below (T10.setTop (mkF m 26 #[.val (.ref r0), .val (.ref r1), .val (.int (0 : Int32)), .val (.int (0 : Int32)), .val (.int (0 : Int32))] [(.ref r1), (.int (0 : Int32))])) t
    refine st18.trans ?_
    show Steps p.tables e below (T18.setTop (mkF m 31 #[.val (.ref r0), .val (.ref r1), .val (.int (0 : Int32)), .val (.int (0 : Int32)), .val (.int (0 : Int32))] [(.int (0 : Int32)), (.int (0 : Int32))])) t
    refine XS.icmpYes X18.here hx rfl (pc0 := 31) (pc' := 84) rfl (hb hby dn_d31) rfl (flt (by decide)).2.1 (by decide) (by decide) ?_
    refine XS.aloadN X18.here hx rfl (hb hby dn_d84) rfl rfl ?_
    refine XS.iloadN X18.here hx rfl (hb hby dn_d85) rfl ?_
    show Steps p.tables e below (T18.setTop (mkF m 86 #[.val (.ref r0), .val (.ref r1), .val (.int (0 : Int32)), .val (.int (0 : Int32)), .val (.int (0 : Int32))] [(.int (0 : Int32)), (.ref r0)])) t
    refine st19 _ ?_
    refine XS.aloadN X19.here hx rfl (hb hby dn_d89) rfl rfl ?_
    refine XS.iloadN X19.here hx rfl (hb hby dn_d90) rfl ?_
    show Steps p.tables e below (T19.setTop (mkF m 91 #[.val (.ref r0), .val (.ref r1), .val (.int (0 : Int32)), .val (.int (0 : Int32)), .val (.int (0 : Int32))] [(.int (0 : Int32)), (.ref r0)])) t
    refine st27 _ ?_
    exact kt
  obtain ⟨fs, hr, hrun, hended, hW, hsame⟩ := X27.leave (v := none) (fun _ => rfl)
  refine ⟨_, _, ?_, hrun, hended, _, _, rfl, ?_, ⟨_, rfl⟩, hW, hsame.mono (by decide) (by decide)⟩
  · skip
    have q := K35 _ (X27.returnOut hx Bd.returns (hb hby dn_d94) hr)
    rw [hP0] at q; exact q
  · show QDn0 Z r0 h0 n0 _ T27.heap _
    rw [e27]
    subst hf11
    exact ⟨b11, rfl, N27, Kp27, sz_b11, F28, F29, F33⟩
def fB1 (d0 : Int32) : Nat → Int32 :=
  let f11 : Nat → Int32 := (fun _ => (0 : Int32))
  let f41 : Nat → Int32 := (upd f11 ((0 : Int32)).toNatClampNeg (0 : Int32))
  let v60 : Int32 := ((0 : Int32) + d0)
  f41
def QDn1 (Z : State) (r0 : Addr) (d0 : Int32) (h0 : Heap) (n0 : Nat) (v : Option Value) (h : Heap) (L : List Loc) : Prop := ∃ b : Addr, v = none ∧ Fr n0 L ∧ Keep h0 h [r0] ∧ h0.size ≤ b ∧ Exa Z h r0 "com/example/termwright/termwright/DocumentNumbers" ∧ Fld Z h r0 "com/example/termwright/termwright/DocumentNumbers" "bases" "[I" (.ref b) ∧ IA Z h b .int 1 (fB1 d0)
theorem dn_d34 : decode prog_33_method_1_code 34 = .ok (.aload_n 0, 1) := by decide +kernel
theorem dn_d35 : decode prog_33_method_1_code 35 = .ok (.getfield 13, 3) := by decide +kernel
theorem dn_d38 : decode prog_33_method_1_code 38 = .ok (.iload 4, 2) := by decide +kernel
theorem dn_d40 : decode prog_33_method_1_code 40 = .ok (.iload_n 2, 1) := by decide +kernel
theorem dn_d41 : decode prog_33_method_1_code 41 = .ok (.iastore, 1) := by decide +kernel
theorem dn_d42 : decode prog_33_method_1_code 42 = .ok (.iload_n 2, 1) := by decide +kernel
theorem dn_d43 : decode prog_33_method_1_code 43 = .ok (.aload_n 1, 1) := by decide +kernel
theorem dn_d44 : decode prog_33_method_1_code 44 = .ok (.iload 4, 2) := by decide +kernel
theorem dn_d46 : decode prog_33_method_1_code 46 = .ok (.invokeinterface 19 2, 5) := by decide +kernel
theorem dn_d51 : decode prog_33_method_1_code 51 = .ok (.checkcast 23, 3) := by decide +kernel
theorem dn_d54 : decode prog_33_method_1_code 54 = .ok (.invokevirtual 25, 3) := by decide +kernel
theorem dn_d57 : decode prog_33_method_1_code 57 = .ok (.invokestatic 28, 3) := by decide +kernel
theorem dn_d60 : decode prog_33_method_1_code 60 = .ok (.istore_n 2, 1) := by decide +kernel
theorem dn_d61 : decode prog_33_method_1_code 61 = .ok (.iload_n 3, 1) := by decide +kernel
theorem dn_d62 : decode prog_33_method_1_code 62 = .ok (.aload_n 1, 1) := by decide +kernel
theorem dn_d63 : decode prog_33_method_1_code 63 = .ok (.iload 4, 2) := by decide +kernel
theorem dn_d65 : decode prog_33_method_1_code 65 = .ok (.invokeinterface 19 2, 5) := by decide +kernel
theorem dn_d70 : decode prog_33_method_1_code 70 = .ok (.checkcast 23, 3) := by decide +kernel
theorem dn_d73 : decode prog_33_method_1_code 73 = .ok (.invokevirtual 34, 3) := by decide +kernel
theorem dn_d76 : decode prog_33_method_1_code 76 = .ok (.iadd, 1) := by decide +kernel
theorem dn_d77 : decode prog_33_method_1_code 77 = .ok (.istore_n 3, 1) := by decide +kernel
theorem dn_d78 : decode prog_33_method_1_code 78 = .ok (.iinc 4 1, 3) := by decide +kernel
theorem dn_d81 : decode prog_33_method_1_code 81 = .ok (.goto (-58), 3) := by decide +kernel
theorem dn1_pn : plainName "com/example/termwright/termwright/DocumentNumbers" = true := by first | (simp [plainName, overriddenIn]; done) | decide +kernel
theorem dn1_pd0 : parseMethodDescriptor "()I" = some ⟨[], some .int⟩ := by decide +kernel
theorem dn1_pd1 : parseMethodDescriptor "(I)Ljava/lang/Object;" = some ⟨[.int], some (.object "java/lang/Object")⟩ := by decide +kernel
theorem dn1_pd2 : parseMethodDescriptor "(II)I" = some ⟨[.int, .int], some .int⟩ := by decide +kernel
theorem dn1_ef (m : MethodId) (x0 : Addr) (x1 : Addr) : entryFrame m #[(.ref x0), (.ref x1)] 5 = mkF m 0 #[.val (.ref x0), .val (.ref x1), .unset, .unset, .unset] [] := by first | (simp [entryFrame, mkF, argsToLocals, Value.category]; done) | rfl
set_option maxRecDepth 65536 in
set_option maxHeartbeats 40000000 in
theorem rm_dn1 (l : Launch) (Z : State) (a0 : Array Value) (hw : ∀ d ∈ tables_1, d.before a0 Z = true) (ws : List Jvm.Cond) (r0 : Addr) (r1 : Addr) (u0 u1 u2 : Value) (ed x0 : Addr) (f : Nat → Value) (d0 : Int32) (h0 : Heap) (n0 : Nat) (Z0 : n0 ≤ h0.size) (H0 : Exa Z h0 r0 "com/example/termwright/termwright/DocumentNumbers") (H1 : Fld Z h0 r0 "com/example/termwright/termwright/DocumentNumbers" "bases" "[I" u0) (H2 : Fld Z h0 r0 "com/example/termwright/termwright/DocumentNumbers" "count" "I" u1) (H3 : Fld Z h0 r0 "com/example/termwright/termwright/DocumentNumbers" "deletedCount" "I" u2) (H4 : Exa Z h0 r1 "java/util/ArrayList") (H5 : Fld Z h0 r1 "java/util/ArrayList" "size" "I" (.int (1 : Int32))) (H6 : Fld Z h0 r1 "java/util/ArrayList" "elementData" "[Ljava/lang/Object;" (.ref ed)) (H7 : RA Z h0 ed 10 f) (H8 : Exa Z h0 x0 "com/example/termwright/termwright/Commit$Segment") (H9 : Fld Z h0 x0 "com/example/termwright/termwright/Commit$Segment" "documentCount" "I" (.int d0)) (H10 : Fld Z h0 x0 "com/example/termwright/termwright/Commit$Segment" "deletions" "Lcom/example/termwright/termwright/Commit$DeletionsFile;" .null) (g_r0 : n0 ≤ r0) (n_r0_r1 : r0 ≠ r1) (n_r0_ed : r0 ≠ ed) (n_r0_x0 : r0 ≠ x0) (hf0 : f 0 = .ref x0) (hs0 : NO (0 : Int32) d0) :
    MetFree l (⟨"com/example/termwright/termwright/DocumentNumbers", "<init>", "(Ljava/util/List;)V"⟩ : MethodName) (head1 (Jvm.Cond.code (⟨"com/example/termwright/termwright/DocumentNumbers", "<init>", "(Ljava/util/List;)V"⟩ : MethodName) prog_33_method_1_code 5 none :: ws) ({ frames := 3, cells := 1, slots := 1, locals := 41 } : Room)) (fun a U => a = #[(.ref r0), (.ref r1)] ∧ Z.Warmed39 U.vm ∧ U.heap = h0) (fun _ _ _ _ _ => True) (fun _ U o U' => ∃ v L, o = .returned v ∧ QDn1 Z r0 d0 h0 n0 v U'.heap L ∧ FrameEnd U o U' L ({ frames := 3, cells := 1, slots := 1, locals := 41 } : Room).cells ({ frames := 3, cells := 1, slots := 1, locals := 41 } : Room).slots) := by
  refine MetFree.of_bodySF (plainFor_of_name dn1_pn) hisR ?_
  intro p e s m args below meth c s₁ Bd hml0 hP hK
  obtain ⟨rfl, hZ, hh⟩ := hP
  have hx := Bd.exec
  have hby := Bd.bytes
  have hml : c.maxLocals = 5 := hml0
  have hown : s.vm.findClass "com/example/termwright/termwright/DocumentNumbers" = some m.cls := findClass_of_methodNamed Bd.named
  have hnm := (name_of_methodNamed Bd.named Bd.method).1
  have X0 : Stand p l e ({ frames := 3, cells := 1, slots := 1, locals := 41 } : Room) s m #[(.ref r0), (.ref r1)] below meth c s₁ [] 0 0 := Stand.of_body Bd
  have e0 : s₁.heap = h0 := by rw [← hh, Bd.state]; rfl
  have N0 := Fr.nil n0
  obtain ⟨P0, hP0⟩ : ∃ P0 : State → Prop, P0 = fun t => Steps p.tables e below (s₁.setTop (entryFrame m #[(.ref r0), (.ref r1)] 5)) t := ⟨_, rfl⟩
  have K0 : ∀ t, Steps p.tables e below (s₁.setTop (mkF m 0 #[.val (.ref r0), .val (.ref r1), .unset, .unset, .unset] [])) t → P0 t := by
    intro t k; rw [hP0]; exact castTop (dn1_ef m r0 r1) k
  obtain ⟨T1, X1, e1, st1⟩ := initO X0 hx hZ hown (hw _ (gw 33 rfl)) (hw _ (gw 20 rfl)) (hw _ (gw 21 rfl)) e0 (g := (mkF m 1 #[.val (.ref r0), .val (.ref r1), .unset, .unset, .unset] [(.ref r0)])) rfl (by rw [hml]; rfl) rfl (hb hby dn_d1) (by decide) (W := 0) (by show 2 * 0 + _ ≤ _; exact Nat.le_of_eq rfl) (by decide)
  obtain ⟨cq2, kq2, q2a, q2b, q2c⟩ := isOf hZ e1 H4
  obtain ⟨_, _, ⟨T2, L2, k2, n2⟩, -, X2, ⟨Lc2, hQ2, l2, y2, z2⟩, st2⟩ := X1.interfaceBack hx (xi := (⟨"java/util/List", "size", "()I"⟩ : MethodName)) (y := (⟨"java/util/ArrayList", "size", "()I"⟩ : MethodName)) hown (mvT hZ (hw _ (gw 34 rfl))) (mvT hZ (hw _ (gw 35 rfl))) (mvT hZ (hw _ (gw 36 rfl))) (mvT hZ (hw _ (gw 37 rfl))) (mvT hZ (hw _ (gw 38 rfl))) (mvT hZ (hw _ (gw 39 rfl))) (mvT hZ (hw _ (gw 40 rfl))) (mvT hZ (hw _ (gw 41 rfl))) (by decide) (backOf (W := 1) (rm_siz l Z a0 hw [] r1 (1 : Int32) h0 n0 Z0 H5) hZ (hw _ (gw 42 rfl)) (hw _ (gw 3 rfl)) (by decide) (by decide)) q2a q2b q2c (g := (mkF m 6 #[.val (.ref r0), .val (.ref r1), .unset, .unset, .unset] [(.ref r1), (.ref r0)])) rfl (by rw [hml]; rfl) (Steps.refl _) (argsL := []) (rest := [(.ref r0)]) (lenOf dn1_pd0 rfl) rfl (by show 2 * 0 + _ ≤ _; exact Nat.le_of_eq rfl) (hb hby dn_d6) (fun _ _ => ⟨rfl, e1, (by decide : 0 + 0 ≤ _), (by decide : 0 + 0 ≤ _)⟩)
  dsimp only [Pt.U, Pt.locs, Pt.cells, Pt.slots] at X2 l2 y2 z2 st2 hQ2
  rw [l2, y2, z2] at X2
  obtain ⟨rfl, N2q, e2⟩ := hQ2
  have N2 := Fr.app N0 N2q
  obtain ⟨T3, h3, k3, X3, e3, E3, A3, st3⟩ := newP X2 hx hZ (hw _ (gw 45 rfl)) e2 (g := (mkF m 11 #[.val (.ref r0), .val (.ref r1), .unset, .unset, .unset] [(.int (1 : Int32)), (.ref r0)])) rfl (hb hby dn_d11) rfl (by decide) (cap := 1) (by decide) (by decide) (by decide) (by decide)
  obtain ⟨b11, g3⟩ : ∃ z, z = h0.size := ⟨_, rfl⟩
  have g_b11 : n0 ≤ b11 := Nat.le_trans Z0 (Nat.le_of_eq g3.symm)
  have ne_r0_b11 : r0 ≠ b11 := Nat.ne_of_lt (Nat.lt_of_lt_of_le H0.lt (Nat.le_of_eq g3.symm))
  have ne_r1_b11 : r1 ≠ b11 := Nat.ne_of_lt (Nat.lt_of_lt_of_le H4.lt (Nat.le_of_eq g3.symm))
  have ne_ed_b11 : ed ≠ b11 := Nat.ne_of_lt (Nat.lt_of_lt_of_le H7.lt (Nat.le_of_eq g3.symm))
  have ne_x0_b11 : x0 ≠ b11 := Nat.ne_of_lt (Nat.lt_of_lt_of_le H8.lt (Nat.le_of_eq g3.symm))
  rw [← g3] at A3 st3
  have sz_b11 : h0.size ≤ b11 := Nat.le_trans (Keep.refl h0 [r0]).1 (Nat.le_of_eq g3.symm)
  have Z3 : n0 ≤ h3.size := Nat.le_trans Z0 E3.1
  have F4 := Exa.ext E3 H0
  have F5 := Fld.ext E3 H1
  have F6 := Fld.ext E3 H2
  have F7 := Fld.ext E3 H3
  have F8 := Exa.ext E3 H4
  have F9 := Fld.ext E3 H5
  have F10 := Fld.ext E3 H6
  have F11 := H7.ext E3
  have F12 := Exa.ext E3 H8
  have F13 := Fld.ext E3 H9
  have F14 := Fld.ext E3 H10
  obtain ⟨f11, hf11, V3⟩ : ∃ f11 : Nat → Int32, f11 = (fun _ => 0) ∧ IA Z h3 b11 .int 1 f11 := ⟨_, rfl, IA.new A3 rfl rfl (by decide)⟩
  have Kp3 : Keep h0 h3 [r0] := (Keep.refl h0 [r0]).ext E3
  obtain ⟨T15, h15, X15, e15, W15, st15⟩ := putF X3 hx hZ hown (host := "") (Or.inl (hw _ (gw 46 rfl))) Via.refl e3 F5 F4 (Or.inr ⟨(hw _ (gw 47 rfl)), rfl, hnm⟩) (hw _ (gw 28 rfl)) (ty := (.array .int)) (by decide) rfl rfl (g := (mkF m 13 #[.val (.ref r0), .val (.ref r1), .unset, .unset, .unset] [(.ref b11), (.ref r0)])) rfl rfl (hb hby dn_d13)
  have Z15 : n0 ≤ h15.size := Nat.le_trans Z3 (Keep.of_wr W15).1
  have N15 := Fr.snoc X15 N2 g_r0
  have F16 := Exa.wr W15 F4
  have F17 := Fld.other W15 F6 (Or.inr (slot_ne (Or.inr (hw _ (gw 49 rfl))) (Or.inr (hw _ (gw 47 rfl))) (by decide) (t := .int) (t' := (.array .int)) (by decide) (by decide)))
  have F18 := Fld.other W15 F7 (Or.inr (slot_ne (Or.inr (hw _ (gw 51 rfl))) (Or.inr (hw _ (gw 47 rfl))) (by decide) (t := .int) (t' := (.array .int)) (by decide) (by decide)))
  have F19 := Exa.wr W15 F8
  have F20 := Fld.other W15 F9 (Or.inl (Ne.symm n_r0_r1))
  have F21 := Fld.other W15 F10 (Or.inl (Ne.symm n_r0_r1))
  have F22 := F11.other W15 (Ne.symm n_r0_ed)
  have F23 := Exa.wr W15 F12
  have F24 := Fld.other W15 F13 (Or.inl (Ne.symm n_r0_x0))
  have F25 := Fld.other W15 F14 (Or.inl (Ne.symm n_r0_x0))
  have F26 := V3.other W15 (Ne.symm ne_r0_b11)
  have Kp15 : Keep h0 h15 [r0] := Kp3.wr W15 (Or.inl (List.mem_of_getElem? (i := 0) rfl))
  have F27 : Fld Z h15 r0 "com/example/termwright/termwright/DocumentNumbers" "bases" "[I" (.ref b11) := Fld.same W15 F5
  obtain ⟨cq28, kq28, q28a, q28b, q28c⟩ := isOf hZ e15 F19
  obtain ⟨_, _, ⟨T28, L28, k28, n28⟩, -, X28, ⟨Lc28, hQ28, l28, y28, z28⟩, st28⟩ := X15.interfaceBack hx (xi := (⟨"java/util/List", "size", "()I"⟩ : MethodName)) (y := (⟨"java/util/ArrayList", "size", "()I"⟩ : MethodName)) hown (mvT hZ (hw _ (gw 34 rfl))) (mvT hZ (hw _ (gw 35 rfl))) (mvT hZ (hw _ (gw 36 rfl))) (mvT hZ (hw _ (gw 37 rfl))) (mvT hZ (hw _ (gw 38 rfl))) (mvT hZ (hw _ (gw 39 rfl))) (mvT hZ (hw _ (gw 40 rfl))) (mvT hZ (hw _ (gw 41 rfl))) (by decide) (backOf (W := 1) (rm_siz l Z a0 hw [] r1 (1 : Int32) h15 n0 Z15 F20) hZ (hw _ (gw 42 rfl)) (hw _ (gw 3 rfl)) (by decide) (by decide)) q28a q28b q28c (g := (mkF m 26 #[.val (.ref r0), .val (.ref r1), .val (.int (0 : Int32)), .val (.int (0 : Int32)), .val (.int (0 : Int32))] [(.ref r1), (.int (0 : Int32))])) rfl (by rw [hml]; rfl) (Steps.refl _) (argsL := []) (rest := [(.int (0 : Int32))]) (lenOf dn1_pd0 rfl) rfl (by show 2 * 0 + _ ≤ _; exact Nat.le_of_eq rfl) (hb hby dn_d26) (fun _ _ => ⟨rfl, e15, (by decide : 1 + 0 ≤ _), (by decide : 1 + 0 ≤ _)⟩)
  dsimp only [Pt.U, Pt.locs, Pt.cells, Pt.slots] at X28 l28 y28 z28 st28 hQ28
  rw [l28, y28, z28] at X28
  obtain ⟨rfl, N28q, e28⟩ := hQ28
  have N28 := Fr.app N15 N28q
  obtain ⟨T29, X29, e29, st29⟩ := getF X28 hx hZ hown (host := "") (Or.inl (hw _ (gw 46 rfl))) Via.refl e28 F27 (g := (mkF m 35 #[.val (.ref r0), .val (.ref r1), .val (.int (0 : Int32)), .val (.int (0 : Int32)), .val (.int (0 : Int32))] [(.ref r0)])) rfl rfl (hb hby dn_d35)
  obtain ⟨T30, h30, X30, e30, ⟨sl30, vv30, W30⟩, V30, st30⟩ := stIA X29 hx hZ e29 F26 (j := (0 : Int32)) (x := (0 : Int32)) (by decide) (g := (mkF m 41 #[.val (.ref r0), .val (.ref r1), .val (.int (0 : Int32)), .val (.int (0 : Int32)), .val (.int (0 : Int32))] [(.int (0 : Int32)), (.int (0 : Int32)), (.ref b11)])) rfl rfl (hb hby dn_d41)
  have Z30 : n0 ≤ h30.size := Nat.le_trans Z15 (Keep.of_wr W30).1
  have N30 := Fr.snoc X30 N28 g_b11
  have F31 := Exa.wr W30 F16
  have F32 := Fld.other W30 F27 (Or.inl ne_r0_b11)
  have F33 := Fld.other W30 F17 (Or.inl ne_r0_b11)
  have F34 := Fld.other W30 F18 (Or.inl ne_r0_b11)
  have F35 := Exa.wr W30 F19
  have F36 := Fld.other W30 F20 (Or.inl ne_r1_b11)
  have F37 := Fld.other W30 F21 (Or.inl ne_r1_b11)
  have F38 := F22.other W30 ne_ed_b11
  have F39 := Exa.wr W30 F23
  have F40 := Fld.other W30 F24 (Or.inl ne_x0_b11)
  have F41 := Fld.other W30 F25 (Or.inl ne_x0_b11)
  have Kp30 : Keep h0 h30 [r0] := Kp15.wr W30 (Or.inr sz_b11)
  obtain ⟨f41, hf41, V30'⟩ : ∃ f41 : Nat → Int32, f41 = (upd f11 ((0 : Int32)).toNatClampNeg (0 : Int32)) ∧ IA Z h30 b11 .int 1 f41 := ⟨_, rfl, V30⟩
  obtain ⟨cq42, kq42, q42a, q42b, q42c⟩ := isOf hZ e30 F35
  obtain ⟨_, _, ⟨T42, L42, k42, n42⟩, -, X42, ⟨Lc42, hQ42, l42, y42, z42⟩, st42⟩ := X30.interfaceBack hx (xi := (⟨"java/util/List", "get", "(I)Ljava/lang/Object;"⟩ : MethodName)) (y := (⟨"java/util/ArrayList", "get", "(I)Ljava/lang/Object;"⟩ : MethodName)) hown (mvT hZ (hw _ (gw 119 rfl))) (mvT hZ (hw _ (gw 120 rfl))) (mvT hZ (hw _ (gw 121 rfl))) (mvT hZ (hw _ (gw 122 rfl))) (mvT hZ (hw _ (gw 123 rfl))) (mvT hZ (hw _ (gw 124 rfl))) (mvT hZ (hw _ (gw 125 rfl))) (mvT hZ (hw _ (gw 41 rfl))) (by decide) (backOf (W := 1) (rm_get l Z a0 hw [] r1 (0 : Int32) (1 : Int32) ed x0 f h30 n0 Z30 F35 F37 F38 F36 (by decide) hf0 (by decide) (by decide)) hZ (hw _ (gw 126 rfl)) (hw _ (gw 3 rfl)) (by decide) (by decide)) q42a q42b q42c (g := (mkF m 46 #[.val (.ref r0), .val (.ref r1), .val (.int (0 : Int32)), .val (.int (0 : Int32)), .val (.int (0 : Int32))] [(.int (0 : Int32)), (.ref r1), (.int (0 : Int32))])) rfl (by rw [hml]; rfl) (Steps.refl _) (argsL := [(.int (0 : Int32))]) (rest := [(.int (0 : Int32))]) (lenOf dn1_pd1 rfl) rfl (by show 2 * 0 + _ ≤ _; exact Nat.le_of_eq rfl) (hb hby dn_d46) (fun _ _ => ⟨rfl, e30, (by decide : 1 + 0 ≤ _), (by decide : 1 + 0 ≤ _)⟩)
  dsimp only [Pt.U, Pt.locs, Pt.cells, Pt.slots] at X42 l42 y42 z42 st42 hQ42
  rw [l42, y42, z42] at X42
  obtain ⟨rfl, N42q, e42⟩ := hQ42
  have N42 := Fr.app N30 N42q
  obtain ⟨T43, X43, e43, st43⟩ := castY X42 hx hZ hown (hw _ (gw 140 rfl)) e42 (Ins.self F39) (g := (mkF m 51 #[.val (.ref r0), .val (.ref r1), .val (.int (0 : Int32)), .val (.int (0 : Int32)), .val (.int (0 : Int32))] [(.ref x0), (.int (0 : Int32))])) rfl rfl (hb hby dn_d51)
  obtain ⟨cq44, kq44, q44a, q44b, q44c⟩ := isOf hZ e43 F39
  obtain ⟨_, _, ⟨T44, L44, k44, n44⟩, -, X44, ⟨Lc44, hQ44, l44, y44, z44⟩, st44⟩ := X43.virtualBack hx (y := (⟨"com/example/termwright/termwright/Commit$Segment", "documentCount", "()I"⟩ : MethodName)) (z := (⟨"com/example/termwright/termwright/Commit$Segment", "documentCount", "()I"⟩ : MethodName)) hown (mvT hZ (hw _ (gw 142 rfl))) (mvT hZ (hw _ (gw 143 rfl))) (notFace_of_selects (args := #[]) (mvT hZ (hw _ (gw 145 rfl)))) (mvT hZ (hw _ (gw 145 rfl))) (mvT hZ (hw _ (gw 144 rfl))) (by decide) (backOf (W := 1) (rm_dcn l Z a0 hw [] x0 d0 h30 n0 Z30 F40) hZ (hw _ (gw 146 rfl)) (hw _ (gw 59 rfl)) (by decide) (by decide)) q44a q44c (g := (mkF m 54 #[.val (.ref r0), .val (.ref r1), .val (.int (0 : Int32)), .val (.int (0 : Int32)), .val (.int (0 : Int32))] [(.ref x0), (.int (0 : Int32))])) rfl (by rw [hml]; rfl) (Steps.refl _) (argsL := []) (rest := [(.int (0 : Int32))]) (lenOf dn1_pd0 rfl) rfl (by show 2 * 0 + _ ≤ _; exact Nat.le_of_eq rfl) (hb hby dn_d54) (fun _ _ => ⟨rfl, e43, (by decide : 1 + 0 ≤ _), (by decide : 1 + 0 ≤ _)⟩)
  dsimp only [Pt.U, Pt.locs, Pt.cells, Pt.slots] at X44 l44 y44 z44 st44 hQ44
  rw [l44, y44, z44] at X44
  obtain ⟨rfl, N44q, e44⟩ := hQ44
  have N44 := Fr.app N42 N44q
  obtain ⟨_, _, ⟨T45, L45, k45, n45⟩, -, X45, ⟨Lc45, hQ45, l45, y45, z45⟩, st45⟩ := Jvm.LawKit.callS X44 hx (y := (⟨"java/lang/Math", "addExact", "(II)I"⟩ : MethodName)) hown (mvT hZ (hw _ (gw 147 rfl))) (mvT hZ (hw _ (gw 148 rfl))) (mvT hZ (hw _ (gw 114 rfl))) (mvT hZ (hw _ (gw 149 rfl))) (by decide) (backOf (W := 0) (rm_adx l Z a0 hw [] (0 : Int32) d0 h30 n0 Z30 hs0) hZ (hw _ (gw 149 rfl)) (hw _ (gw 114 rfl)) (by decide) (by decide)) (g := (mkF m 57 #[.val (.ref r0), .val (.ref r1), .val (.int (0 : Int32)), .val (.int (0 : Int32)), .val (.int (0 : Int32))] [(.int d0), (.int (0 : Int32))])) rfl (by rw [hml]; rfl) (argsL := [(.int (0 : Int32)), (.int d0)]) (rest := []) (lenOf dn1_pd2 rfl) rfl (by show 2 * 0 + _ ≤ _; exact Nat.le_of_eq rfl) (hb hby dn_d57) (fun _ _ => ⟨rfl, e44, (by decide : 1 + 0 ≤ _), (by decide : 1 + 0 ≤ _)⟩)
  dsimp only [Pt.U, Pt.locs, Pt.cells, Pt.slots] at X45 l45 y45 z45 st45 hQ45
  rw [l45, y45, z45] at X45
  obtain ⟨rfl, N45q, e45⟩ := hQ45
  have N45 := Fr.app N44 N45q
  have K46 : ∀ t, Steps p.tables e below (T45.setTop (mkF m 61 #[.val (.ref r0), .val (.ref r1), .val (.int ((0 : Int32) + d0)), .val (.int (0 : Int32)), .val (.int (0 : Int32))] [])) t → P0 t := by
    intro t kt
    refine K0 t ?_
    refine XS.aloadN X0.here hx rfl (hb hby dn_d0) rfl rfl ?_
    show Steps p.tables e below (s₁.setTop (mkF m 1 #[.val (.ref r0), .val (.ref r1), .unset, .unset, .unset] [(.ref r0)])) t
    refine st1 _ ?_
    refine XS.aloadN X1.here hx rfl (hb hby dn_d4) rfl rfl ?_
    refine XS.aloadN X1.here hx rfl (hb hby dn_d5) rfl rfl ?_
    show Steps p.tables e below (T1.setTop (mkF m 6 #[.val (.ref r0), .val (.ref r1), .unset, .unset, .unset] [(.ref r1), (.ref r0)])) t
    refine st2.trans ?_
    show Steps p.tables e below (T2.setTop (mkF m 11 #[.val (.ref r0), .val (.ref r1), .unset, .unset, .unset] [(.int (1 : Int32)), (.ref r0)])) t
    refine st3 _ ?_
    show Steps p.tables e below (T3.setTop (mkF m 13 #[.val (.ref r0), .val (.ref r1), .unset, .unset, .unset] [(.ref b11), (.ref r0)])) t
    refine st15 _ ?_
    refine XS.iconst X15.here hx rfl (hb hby dn_d16) ?_
    show Steps p.tables e below (T15.setTop (mkF m 17 #[.val (.ref r0), .val (.ref r1), .unset, .unset, .unset] [(.int (0 : Int32))])) t
    refine XS.istoreN X15.here hx rfl (hb hby dn_d17) rfl (l' := #[.val (.ref r0), .val (.ref r1), .val (.int (0 : Int32)), .unset, .unset]) rfl ?_
    refine XS.iconst X15.here hx rfl (hb hby dn_d18) ?_
    show Steps p.tables e below (T15.setTop (mkF m 19 #[.val (.ref r0), .val (.ref r1), .val (.int (0 : Int32)), .unset, .unset] [(.int (0 : Int32))])) t
    refine XS.istoreN X15.here hx rfl (hb hby dn_d19) rfl (l' := #[.val (.ref r0), .val (.ref r1), .val (.int (0 : Int32)), .val (.int (0 : Int32)), .unset]) rfl ?_
    refine XS.iconst X15.here hx rfl (hb hby dn_d20) ?_
    show Steps p.tables e below (T15.setTop (mkF m 21 #[.val (.ref r0), .val (.ref r1), .val (.int (0 : Int32)), .val (.int (0 : Int32)), .unset] [(.int (0 : Int32))])) t
    refine XS.istore X15.here hx rfl (hb hby dn_d21) rfl (l' := #[.val (.ref r0), .val (.ref r1), .val (.int (0 : Int32)), .val (.int (0 : Int32)), .val (.int (0 : Int32))]) rfl ?_
    refine XS.iload X15.here hx rfl (hb hby dn_d23) rfl ?_
    refine XS.aloadN X15.here hx rfl (hb hby dn_d25) rfl rfl ?_
    show Steps p.tables e below (T15.setTop (mkF m 26 #[.val (.ref r0), .val (.ref r1), .val (.int (0 : Int32)), .val (.int (0 : Int32)), .val (.int (0 : Int32))] [(.ref r1), (.int (0 : Int32))])) t
    refine st28.trans ?_
    show Steps p.tables e below (T28.setTop (mkF m 31 #[.val (.ref r0), .val (.ref r1), .val (.int (0 : Int32)), .val (.int (0 : Int32)), .val (.int (0 : Int32))] [(.int (1 : Int32)), (.int (0 : Int32))])) t
    refine XS.icmpNo X28.here hx rfl (hb hby dn_d31) rfl (tlt (by decide)).2.1 ?_
    refine XS.aloadN X28.here hx rfl (hb hby dn_d34) rfl rfl ?_
    show Steps p.tables e below (T28.setTop (mkF m 35 #[.val (.ref r0), .val (.ref r1), .val (.int (0 : Int32)), .val (.int (0 : Int32)), .val (.int (0 : Int32))] [(.ref r0)])) t
    refine st29 _ ?_
    refine XS.iload X29.here hx rfl (hb hby dn_d38) rfl ?_
    refine XS.iloadN X29.here hx rfl (hb hby dn_d40) rfl ?_
    show Steps p.tables e below (T29.setTop (mkF m 41 #[.val (.ref r0), .val (.ref r1), .val (.int (0 : Int32)), .val (.int (0 : Int32)), .val (.int (0 : Int32))] [(.int (0 : Int32)), (.int (0 : Int32)), (.ref b11)])) t
    refine st30 _ ?_
    refine XS.iloadN X30.here hx rfl (hb hby dn_d42) rfl ?_
    refine XS.aloadN X30.here hx rfl (hb hby dn_d43) rfl rfl ?_
    refine XS.iload X30.here hx rfl (hb hby dn_d44) rfl ?_
    show Steps p.tables e below (T30.setTop (mkF m 46 #[.val (.ref r0), .val (.ref r1), .val (.int (0 : Int32)), .val (.int (0 : Int32)), .val (.int (0 : Int32))] [(.int (0 : Int32)), (.ref r1), (.int (0 : Int32))])) t
    refine st42.trans ?_
    show Steps p.tables e below (T42.setTop (mkF m 51 #[.val (.ref r0), .val (.ref r1), .val (.int (0 : Int32)), .val (.int (0 : Int32)), .val (.int (0 : Int32))] [(.ref x0), (.int (0 : Int32))])) t
    refine st43 _ ?_
    show Steps p.tables e below (T43.setTop (mkF m 54 #[.val (.ref r0), .val (.ref r1), .val (.int (0 : Int32)), .val (.int (0 : Int32)), .val (.int (0 : Int32))] [(.ref x0), (.int (0 : Int32))])) t
    refine st44.trans ?_
    show Steps p.tables e below (T44.setTop (mkF m 57 #[.val (.ref r0), .val (.ref r1), .val (.int (0 : Int32)), .val (.int (0 : Int32)), .val (.int (0 : Int32))] [(.int d0), (.int (0 : Int32))])) t
    refine st45 _ ?_
    show Steps p.tables e below (T45.setTop (mkF m 60 #[.val (.ref r0), .val (.ref r1), .val (.int (0 : Int32)), .val (.int (0 : Int32)), .val (.int (0 : Int32))] [(.int ((0 : Int32) + d0))])) t
    refine XS.istoreN X45.here hx rfl (hb hby dn_d60) rfl (l' := #[.val (.ref r0), .val (.ref r1), .val (.int ((0 : Int32) + d0)), .val (.int (0 : Int32)), .val (.int (0 : Int32))]) rfl ?_
    exact kt
  obtain ⟨v60, hv60, K47⟩ : ∃ v60 : Int32, v60 = ((0 : Int32) + d0) ∧ ∀ t, Steps p.tables e below (T45.setTop (mkF m 61 #[.val (.ref r0), .val (.ref r1), .val (.int v60), .val (.int (0 : Int32)), .val (.int (0 : Int32))] [])) t → P0 t := ⟨_, rfl, K46⟩
  obtain ⟨cq48, kq48, q48a, q48b, q48c⟩ := isOf hZ e45 F35
  obtain ⟨_, _, ⟨T48, L48, k48, n48⟩, -, X48, ⟨Lc48, hQ48, l48, y48, z48⟩, st48⟩ := X45.interfaceBack hx (xi := (⟨"java/util/List", "get", "(I)Ljava/lang/Object;"⟩ : MethodName)) (y := (⟨"java/util/ArrayList", "get", "(I)Ljava/lang/Object;"⟩ : MethodName)) hown (mvT hZ (hw _ (gw 119 rfl))) (mvT hZ (hw _ (gw 120 rfl))) (mvT hZ (hw _ (gw 121 rfl))) (mvT hZ (hw _ (gw 122 rfl))) (mvT hZ (hw _ (gw 123 rfl))) (mvT hZ (hw _ (gw 124 rfl))) (mvT hZ (hw _ (gw 125 rfl))) (mvT hZ (hw _ (gw 41 rfl))) (by decide) (backOf (W := 1) (rm_get l Z a0 hw [] r1 (0 : Int32) (1 : Int32) ed x0 f h30 n0 Z30 F35 F37 F38 F36 (by decide) hf0 (by decide) (by decide)) hZ (hw _ (gw 126 rfl)) (hw _ (gw 3 rfl)) (by decide) (by decide)) q48a q48b q48c (g := (mkF m 65 #[.val (.ref r0), .val (.ref r1), .val (.int v60), .val (.int (0 : Int32)), .val (.int (0 : Int32))] [(.int (0 : Int32)), (.ref r1), (.int (0 : Int32))])) rfl (by rw [hml]; rfl) (Steps.refl _) (argsL := [(.int (0 : Int32))]) (rest := [(.int (0 : Int32))]) (lenOf dn1_pd1 rfl) rfl (by show 2 * 0 + _ ≤ _; exact Nat.le_of_eq rfl) (hb hby dn_d65) (fun _ _ => ⟨rfl, e45, (by decide : 1 + 0 ≤ _), (by decide : 1 + 0 ≤ _)⟩)
  dsimp only [Pt.U, Pt.locs, Pt.cells, Pt.slots] at X48 l48 y48 z48 st48 hQ48
  rw [l48, y48, z48] at X48
  obtain ⟨rfl, N48q, e48⟩ := hQ48
  have N48 := Fr.app N45 N48q
  obtain ⟨T49, X49, e49, st49⟩ := castY X48 hx hZ hown (hw _ (gw 140 rfl)) e48 (Ins.self F39) (g := (mkF m 70 #[.val (.ref r0), .val (.ref r1), .val (.int v60), .val (.int (0 : Int32)), .val (.int (0 : Int32))] [(.ref x0), (.int (0 : Int32))])) rfl rfl (hb hby dn_d70)
  obtain ⟨cq50, kq50, q50a, q50b, q50c⟩ := isOf hZ e49 F39
  obtain ⟨_, _, ⟨T50, L50, k50, n50⟩, -, X50, ⟨Lc50, hQ50, l50, y50, z50⟩, st50⟩ := X49.virtualBack hx (y := (⟨"com/example/termwright/termwright/Commit$Segment", "deletedCount", "()I"⟩ : MethodName)) (z := (⟨"com/example/termwright/termwright/Commit$Segment", "deletedCount", "()I"⟩ : MethodName)) hown (mvT hZ (hw _ (gw 150 rfl))) (mvT hZ (hw _ (gw 151 rfl))) (notFace_of_selects (args := #[]) (mvT hZ (hw _ (gw 153 rfl)))) (mvT hZ (hw _ (gw 153 rfl))) (mvT hZ (hw _ (gw 152 rfl))) (by decide) (backOf (W := 1) (rm_dlc l Z a0 hw [] x0 h30 n0 Z30 F41) hZ (hw _ (gw 154 rfl)) (hw _ (gw 59 rfl)) (by decide) (by decide)) q50a q50c (g := (mkF m 73 #[.val (.ref r0), .val (.ref r1), .val (.int v60), .val (.int (0 : Int32)), .val (.int (0 : Int32))] [(.ref x0), (.int (0 : Int32))])) rfl (by rw [hml]; rfl) (Steps.refl _) (argsL := []) (rest := [(.int (0 : Int32))]) (lenOf dn1_pd0 rfl) rfl (by show 2 * 0 + _ ≤ _; exact Nat.le_of_eq rfl) (hb hby dn_d73) (fun _ _ => ⟨rfl, e49, (by decide : 1 + 0 ≤ _), (by decide : 1 + 0 ≤ _)⟩)
  dsimp only [Pt.U, Pt.locs, Pt.cells, Pt.slots] at X50 l50 y50 z50 st50 hQ50
  rw [l50, y50, z50] at X50
  obtain ⟨rfl, N50q, e50⟩ := hQ50
  have N50 := Fr.app N48 N50q
  obtain ⟨cq51, kq51, q51a, q51b, q51c⟩ := isOf hZ e50 F35
  obtain ⟨_, _, ⟨T51, L51, k51, n51⟩, -, X51, ⟨Lc51, hQ51, l51, y51, z51⟩, st51⟩ := X50.interfaceBack hx (xi := (⟨"java/util/List", "size", "()I"⟩ : MethodName)) (y := (⟨"java/util/ArrayList", "size", "()I"⟩ : MethodName)) hown (mvT hZ (hw _ (gw 34 rfl))) (mvT hZ (hw _ (gw 35 rfl))) (mvT hZ (hw _ (gw 36 rfl))) (mvT hZ (hw _ (gw 37 rfl))) (mvT hZ (hw _ (gw 38 rfl))) (mvT hZ (hw _ (gw 39 rfl))) (mvT hZ (hw _ (gw 40 rfl))) (mvT hZ (hw _ (gw 41 rfl))) (by decide) (backOf (W := 1) (rm_siz l Z a0 hw [] r1 (1 : Int32) h30 n0 Z30 F36) hZ (hw _ (gw 42 rfl)) (hw _ (gw 3 rfl)) (by decide) (by decide)) q51a q51b q51c (g := (mkF m 26 #[.val (.ref r0), .val (.ref r1), .val (.int v60), .val (.int (0 : Int32)), .val (.int (1 : Int32))] [(.ref r1), (.int (1 : Int32))])) rfl (by rw [hml]; rfl) (Steps.refl _) (argsL := []) (rest := [(.int (1 : Int32))]) (lenOf dn1_pd0 rfl) rfl (by show 2 * 0 + _ ≤ _; exact Nat.le_of_eq rfl) (hb hby dn_d26) (fun _ _ => ⟨rfl, e50, (by decide : 1 + 0 ≤ _), (by decide : 1 + 0 ≤ _)⟩)
  dsimp only [Pt.U, Pt.locs, Pt.cells, Pt.slots] at X51 l51 y51 z51 st51 hQ51
  rw [l51, y51, z51] at X51
  obtain ⟨rfl, N51q, e51⟩ := hQ51
  have N51 := Fr.app N50 N51q
  obtain ⟨T52, h52, X52, e52, W52, st52⟩ := putF X51 hx hZ hown (host := "") (Or.inl (hw _ (gw 48 rfl))) Via.refl e51 F33 F31 (Or.inr ⟨(hw _ (gw 49 rfl)), rfl, hnm⟩) (hw _ (gw 28 rfl)) (ty := .int) (by decide) rfl rfl (g := (mkF m 86 #[.val (.ref r0), .val (.ref r1), .val (.int v60), .val (.int (0 : Int32)), .val (.int (1 : Int32))] [(.int v60), (.ref r0)])) rfl rfl (hb hby dn_d86)
  have Z52 : n0 ≤ h52.size := Nat.le_trans Z30 (Keep.of_wr W52).1
  have N52 := Fr.snoc X52 N51 g_r0
  have F53 := Exa.wr W52 F31
  have F54 := Fld.other W52 F32 (Or.inr (slot_ne (Or.inr (hw _ (gw 47 rfl))) (Or.inr (hw _ (gw 49 rfl))) (by decide) (t := (.array .int)) (t' := .int) (by decide) (by decide)))
  have F55 := Fld.other W52 F34 (Or.inr (slot_ne (Or.inr (hw _ (gw 51 rfl))) (Or.inr (hw _ (gw 49 rfl))) (by decide) (t := .int) (t' := .int) (by decide) (by decide)))
  have F56 := Exa.wr W52 F35
  have F57 := Fld.other W52 F36 (Or.inl (Ne.symm n_r0_r1))
  have F58 := Fld.other W52 F37 (Or.inl (Ne.symm n_r0_r1))
  have F59 := F38.other W52 (Ne.symm n_r0_ed)
  have F60 := Exa.wr W52 F39
  have F61 := Fld.other W52 F40 (Or.inl (Ne.symm n_r0_x0))
  have F62 := Fld.other W52 F41 (Or.inl (Ne.symm n_r0_x0))
  have F63 := V30'.other W52 (Ne.symm ne_r0_b11)
  have Kp52 : Keep h0 h52 [r0] := Kp30.wr W52 (Or.inl (List.mem_of_getElem? (i := 0) rfl))
  have F64 : Fld Z h52 r0 "com/example/termwright/termwright/DocumentNumbers" "count" "I" (.int v60) := Fld.same W52 F33
  obtain ⟨T65, h65, X65, e65, W65, st65⟩ := putF X52 hx hZ hown (host := "") (Or.inl (hw _ (gw 50 rfl))) Via.refl e52 F55 F53 (Or.inr ⟨(hw _ (gw 51 rfl)), rfl, hnm⟩) (hw _ (gw 28 rfl)) (ty := .int) (by decide) rfl rfl (g := (mkF m 91 #[.val (.ref r0), .val (.ref r1), .val (.int v60), .val (.int (0 : Int32)), .val (.int (1 : Int32))] [(.int (0 : Int32)), (.ref r0)])) rfl rfl (hb hby dn_d91)
  have Z65 : n0 ≤ h65.size := Nat.le_trans Z52 (Keep.of_wr W65).1
  have N65 := Fr.snoc X65 N52 g_r0
  have F66 := Exa.wr W65 F53
  have F67 := Fld.other W65 F54 (Or.inr (slot_ne (Or.inr (hw _ (gw 47 rfl))) (Or.inr (hw _ (gw 51 rfl))) (by decide) (t := (.array .int)) (t' := .int) (by decide) (by decide)))
  have F68 := Fld.other W65 F64 (Or.inr (slot_ne (Or.inr (hw _ (gw 49 rfl))) (Or.inr (hw _ (gw 51 rfl))) (by decide) (t := .int) (t' := .int) (by decide) (by decide)))
  have F69 := Exa.wr W65 F56
  have F70 := Fld.other W65 F57 (Or.inl (Ne.symm n_r0_r1))
  have F71 := Fld.other W65 F58 (Or.inl (Ne.symm n_r0_r1))
  have F72 := F59.other W65 (Ne.symm n_r0_ed)
  have F73 := Exa.wr W65 F60
  have F74 := Fld.other W65 F61 (Or.inl (Ne.symm n_r0_x0))
  have F75 := Fld.other W65 F62 (Or.inl (Ne.symm n_r0_x0))
  have F76 := F63.other W65 (Ne.symm ne_r0_b11)
  have Kp65 : Keep h0 h65 [r0] := Kp52.wr W65 (Or.inl (List.mem_of_getElem? (i := 0) rfl))
  have F77 : Fld Z h65 r0 "com/example/termwright/termwright/DocumentNumbers" "deletedCount" "I" (.int (0 : Int32)) := Fld.same W65 F55
  have K78 : ∀ t, Steps p.tables e below (T65.setTop (mkF m 94 #[.val (.ref r0), .val (.ref r1), .val (.int v60), .val (.int (0 : Int32)), .val (.int (1 : Int32))] [])) t → P0 t := by
    intro t kt
    refine K47 t ?_
    refine XS.iloadN X45.here hx rfl (hb hby dn_d61) rfl ?_
    refine XS.aloadN X45.here hx rfl (hb hby dn_d62) rfl rfl ?_
    refine XS.iload X45.here hx rfl (hb hby dn_d63) rfl ?_
    show Steps p.tables e below (T45.setTop (mkF m 65 #[.val (.ref r0), .val (.ref r1), .val (.int v60), .val (.int (0 : Int32)), .val (.int (0 : Int32))] [(.int (0 : Int32)), (.ref r1), (.int (0 : Int32))])) t
    refine st48.trans ?_
    show Steps p.tables e below (T48.setTop (mkF m 70 #[.val (.ref r0), .val (.ref r1), .val (.int v60), .val (.int (0 : Int32)), .val (.int (0 : Int32))] [(.ref x0), (.int (0 : Int32))])) t
    refine st49 _ ?_
    show Steps p.tables e below (T49.setTop (mkF m 73 #[.val (.ref r0), .val (.ref r1), .val (.int v60), .val (.int (0 : Int32)), .val (.int (0 : Int32))] [(.ref x0), (.int (0 : Int32))])) t
    refine st50.trans ?_
    show Steps p.tables e below (T50.setTop (mkF m 76 #[.val (.ref r0), .val (.ref r1), .val (.int v60), .val (.int (0 : Int32)), .val (.int (0 : Int32))] [(.int (0 : Int32)), (.int (0 : Int32))])) t
    refine XS.iadd X50.here hx rfl (hb hby dn_d76) rfl ?_
    show Steps p.tables e below (T50.setTop (mkF m 77 #[.val (.ref r0), .val (.ref r1), .val (.int v60), .val (.int (0 : Int32)), .val (.int (0 : Int32))] [(.int (0 : Int32))])) t
    refine XS.istoreN X50.here hx rfl (hb hby dn_d77) rfl (l' := #[.val (.ref r0), .val (.ref r1), .val (.int v60), .val (.int (0 : Int32)), .val (.int (0 : Int32))]) rfl ?_
    show Steps p.tables e below (T50.setTop (mkF m 78 #[.val (.ref r0), .val (.ref r1), .val (.int v60), .val (.int (0 : Int32)), .val (.int (0 : Int32))] [])) t
    refine XS.iinc X50.here hx rfl (hb hby dn_d78) rfl (l' := #[.val (.ref r0), .val (.ref r1), .val (.int v60), .val (.int (0 : Int32)), .val (.int (1 : Int32))]) rfl ?_
    show Steps p.tables e below (T50.setTop (mkF m 81 #[.val (.ref r0), .val (.ref r1), .val (.int v60), .val (.int (0 : Int32)), .val (.int (1 : Int32))] [])) t
    refine XS.goto X50.here hx rfl (pc0 := 81) (pc' := 23) rfl (hb hby dn_d81) (by decide) (by decide) ?_
    refine XS.iload X50.here hx rfl (hb hby dn_d23) rfl ?_
    refine XS.aloadN X50.here hx rfl (hb hby dn_d25) rfl rfl ?_
    show Steps p.tables e below (T50.setTop (mkF m 26 #[.val (.ref r0), .val (.ref r1), .val (.int v60), .val (.int (0 : Int32)), .val (.int (1 : Int32))] [(.ref r1), (.int (1 : Int32))])) t
    refine st51.trans ?_
    show Steps p.tables e below (T51.setTop (mkF m 31 #[.val (.ref r0), .val (.ref r1), .val (.int v60), .val (.int (0 : Int32)), .val (.int (1 : Int32))] [(.int (1 : Int32)), (.int (1 : Int32))])) t
    refine XS.icmpYes X51.here hx rfl (pc0 := 31) (pc' := 84) rfl (hb hby dn_d31) rfl (flt (by decide)).2.1 (by decide) (by decide) ?_
    refine XS.aloadN X51.here hx rfl (hb hby dn_d84) rfl rfl ?_
    refine XS.iloadN X51.here hx rfl (hb hby dn_d85) rfl ?_
    show Steps p.tables e below (T51.setTop (mkF m 86 #[.val (.ref r0), .val (.ref r1), .val (.int v60), .val (.int (0 : Int32)), .val (.int (1 : Int32))] [(.int v60), (.ref r0)])) t
    refine st52 _ ?_
    refine XS.aloadN X52.here hx rfl (hb hby dn_d89) rfl rfl ?_
    refine XS.iloadN X52.here hx rfl (hb hby dn_d90) rfl ?_
    show Steps p.tables e below (T52.setTop (mkF m 91 #[.val (.ref r0), .val (.ref r1), .val (.int v60), .val (.int (0 : Int32)), .val (.int (1 : Int32))] [(.int (0 : Int32)), (.ref r0)])) t
    refine st65 _ ?_
    exact kt
  obtain ⟨fs, hr, hrun, hended, hW, hsame⟩ := X65.leave (v := none) (fun _ => rfl)
  refine ⟨_, _, ?_, hrun, hended, _, _, rfl, ?_, ⟨_, rfl⟩, hW, hsame.mono (by decide) (by decide)⟩
  · skip
    have q := K78 _ (X65.returnOut hx Bd.returns (hb hby dn_d94) hr)
    rw [hP0] at q; exact q
  · show QDn1 Z r0 d0 h0 n0 _ T65.heap _
    rw [e65]
    subst hf11
    subst hf41
    subst hv60
    exact ⟨b11, rfl, N65, Kp65, sz_b11, F66, F67, F76⟩
def fB2 (d0 d1 : Int32) : Nat → Int32 :=
  let f11 : Nat → Int32 := (fun _ => (0 : Int32))
  let f41 : Nat → Int32 := (upd f11 ((0 : Int32)).toNatClampNeg (0 : Int32))
  let v60 : Int32 := ((0 : Int32) + d0)
  let f41_1 : Nat → Int32 := (upd f41 ((1 : Int32)).toNatClampNeg v60)
  let v60_1 : Int32 := (v60 + d1)
  f41_1
def QDn2 (Z : State) (r0 : Addr) (d0 d1 : Int32) (h0 : Heap) (n0 : Nat) (v : Option Value) (h : Heap) (L : List Loc) : Prop := ∃ b : Addr, v = none ∧ Fr n0 L ∧ Keep h0 h [r0] ∧ h0.size ≤ b ∧ Exa Z h r0 "com/example/termwright/termwright/DocumentNumbers" ∧ Fld Z h r0 "com/example/termwright/termwright/DocumentNumbers" "bases" "[I" (.ref b) ∧ IA Z h b .int 2 (fB2 d0 d1)
theorem dn2_pn : plainName "com/example/termwright/termwright/DocumentNumbers" = true := by first | (simp [plainName, overriddenIn]; done) | decide +kernel
theorem dn2_pd0 : parseMethodDescriptor "()I" = some ⟨[], some .int⟩ := by decide +kernel
theorem dn2_pd1 : parseMethodDescriptor "(I)Ljava/lang/Object;" = some ⟨[.int], some (.object "java/lang/Object")⟩ := by decide +kernel
theorem dn2_pd2 : parseMethodDescriptor "(II)I" = some ⟨[.int, .int], some .int⟩ := by decide +kernel
theorem dn2_ef (m : MethodId) (x0 : Addr) (x1 : Addr) : entryFrame m #[(.ref x0), (.ref x1)] 5 = mkF m 0 #[.val (.ref x0), .val (.ref x1), .unset, .unset, .unset] [] := by first | (simp [entryFrame, mkF, argsToLocals, Value.category]; done) | rfl
set_option maxRecDepth 65536 in
set_option maxHeartbeats 40000000 in
theorem rm_dn2 (l : Launch) (Z : State) (a0 : Array Value) (hw : ∀ d ∈ tables_1, d.before a0 Z = true) (ws : List Jvm.Cond) (r0 : Addr) (r1 : Addr) (u0 u1 u2 : Value) (ed x0 x1 : Addr) (f : Nat → Value) (d0 d1 : Int32) (h0 : Heap) (n0 : Nat) (Z0 : n0 ≤ h0.size) (H0 : Exa Z h0 r0 "com/example/termwright/termwright/DocumentNumbers") (H1 : Fld Z h0 r0 "com/example/termwright/termwright/DocumentNumbers" "bases" "[I" u0) (H2 : Fld Z h0 r0 "com/example/termwright/termwright/DocumentNumbers" "count" "I" u1) (H3 : Fld Z h0 r0 "com/example/termwright/termwright/DocumentNumbers" "deletedCount" "I" u2) (H4 : Exa Z h0 r1 "java/util/ArrayList") (H5 : Fld Z h0 r1 "java/util/ArrayList" "size" "I" (.int (2 : Int32))) (H6 : Fld Z h0 r1 "java/util/ArrayList" "elementData" "[Ljava/lang/Object;" (.ref ed)) (H7 : RA Z h0 ed 10 f) (H8 : Exa Z h0 x0 "com/example/termwright/termwright/Commit$Segment") (H9 : Fld Z h0 x0 "com/example/termwright/termwright/Commit$Segment" "documentCount" "I" (.int d0)) (H10 : Fld Z h0 x0 "com/example/termwright/termwright/Commit$Segment" "deletions" "Lcom/example/termwright/termwright/Commit$DeletionsFile;" .null) (H11 : Exa Z h0 x1 "com/example/termwright/termwright/Commit$Segment") (H12 : Fld Z h0 x1 "com/example/termwright/termwright/Commit$Segment" "documentCount" "I" (.int d1)) (H13 : Fld Z h0 x1 "com/example/termwright/termwright/Commit$Segment" "deletions" "Lcom/example/termwright/termwright/Commit$DeletionsFile;" .null) (g_r0 : n0 ≤ r0) (n_r0_r1 : r0 ≠ r1) (n_r0_ed : r0 ≠ ed) (n_r0_x0 : r0 ≠ x0) (n_r0_x1 : r0 ≠ x1) (hf0 : f 0 = .ref x0) (hf1 : f 1 = .ref x1) (hs0 : NO (0 : Int32) d0) (hs1 : NO ((0 : Int32) + d0) d1) :
    MetFree l (⟨"com/example/termwright/termwright/DocumentNumbers", "<init>", "(Ljava/util/List;)V"⟩ : MethodName) (head1 (Jvm.Cond.code (⟨"com/example/termwright/termwright/DocumentNumbers", "<init>", "(Ljava/util/List;)V"⟩ : MethodName) prog_33_method_1_code 5 none :: ws) ({ frames := 3, cells := 1, slots := 2, locals := 41 } : Room)) (fun a U => a = #[(.ref r0), (.ref r1)] ∧ Z.Warmed39 U.vm ∧ U.heap = h0) (fun _ _ _ _ _ => True) (fun _ U o U' => ∃ v L, o = .returned v ∧ QDn2 Z r0 d0 d1 h0 n0 v U'.heap L ∧ FrameEnd U o U' L ({ frames := 3, cells := 1, slots := 2, locals := 41 } : Room).cells ({ frames := 3, cells := 1, slots := 2, locals := 41 } : Room).slots) := by
  refine MetFree.of_bodySF (plainFor_of_name dn2_pn) hisR ?_
  intro p e s m args below meth c s₁ Bd hml0 hP hK
  obtain ⟨rfl, hZ, hh⟩ := hP
  have hx := Bd.exec
  have hby := Bd.bytes
  have hml : c.maxLocals = 5 := hml0
  have hown : s.vm.findClass "com/example/termwright/termwright/DocumentNumbers" = some m.cls := findClass_of_methodNamed Bd.named
  have hnm := (name_of_methodNamed Bd.named Bd.method).1
  have X0 : Stand p l e ({ frames := 3, cells := 1, slots := 2, locals := 41 } : Room) s m #[(.ref r0), (.ref r1)] below meth c s₁ [] 0 0 := Stand.of_body Bd
  have e0 : s₁.heap = h0 := by rw [← hh, Bd.state]; rfl
  have N0 := Fr.nil n0
  obtain ⟨P0, hP0⟩ : ∃ P0 : State → Prop, P0 = fun t => Steps p.tables e below (s₁.setTop (entryFrame m #[(.ref r0), (.ref r1)] 5)) t := ⟨_, rfl⟩
  have K0 : ∀ t, Steps p.tables e below (s₁.setTop (mkF m 0 #[.val (.ref r0), .val (.ref r1), .unset, .unset, .unset] [])) t → P0 t := by
    intro t k; rw [hP0]; exact castTop (dn2_ef m r0 r1) k
  obtain ⟨T1, X1, e1, st1⟩ := initO X0 hx hZ hown (hw _ (gw 33 rfl)) (hw _ (gw 20 rfl)) (hw _ (gw 21 rfl)) e0 (g := (mkF m 1 #[.val (.ref r0), .val (.ref r1), .unset, .unset, .unset] [(.ref r0)])) rfl (by rw [hml]; rfl) rfl (hb hby dn_d1) (by decide) (W := 0) (by show 2 * 0 + _ ≤ _; exact Nat.le_of_eq rfl) (by decide)
  obtain ⟨cq2, kq2, q2a, q2b, q2c⟩ := isOf hZ e1 H4
  obtain ⟨_, _, ⟨T2, L2, k2, n2⟩, -, X2, ⟨Lc2, hQ2, l2, y2, z2⟩, st2⟩ := X1.interfaceBack hx (xi := (⟨"java/util/List", "size", "()I"⟩ : MethodName)) (y := (⟨"java/util/ArrayList", "size", "()I"⟩ : MethodName)) hown (mvT hZ (hw _ (gw 34 rfl))) (mvT hZ (hw _ (gw 35 rfl))) (mvT hZ (hw _ (gw 36 rfl))) (mvT hZ (hw _ (gw 37 rfl))) (mvT hZ (hw _ (gw 38 rfl))) (mvT hZ (hw _ (gw 39 rfl))) (mvT hZ (hw _ (gw 40 rfl))) (mvT hZ (hw _ (gw 41 rfl))) (by decide) (backOf (W := 1) (rm_siz l Z a0 hw [] r1 (2 : Int32) h0 n0 Z0 H5) hZ (hw _ (gw 42 rfl)) (hw _ (gw 3 rfl)) (by decide) (by decide)) q2a q2b q2c (g := (mkF m 6 #[.val (.ref r0), .val (.ref r1), .unset, .unset, .unset] [(.ref r1), (.ref r0)])) rfl (by rw [hml]; rfl) (Steps.refl _) (argsL := []) (rest := [(.ref r0)]) (lenOf dn2_pd0 rfl) rfl (by show 2 * 0 + _ ≤ _; exact Nat.le_of_eq rfl) (hb hby dn_d6) (fun _ _ => ⟨rfl, e1, (by decide : 0 + 0 ≤ _), (by decide : 0 + 0 ≤ _)⟩)
  dsimp only [Pt.U, Pt.locs, Pt.cells, Pt.slots] at X2 l2 y2 z2 st2 hQ2
  rw [l2, y2, z2] at X2
  obtain ⟨rfl, N2q, e2⟩ := hQ2
  have N2 := Fr.app N0 N2q
  obtain ⟨T3, h3, k3, X3, e3, E3, A3, st3⟩ := newP X2 hx hZ (hw _ (gw 45 rfl)) e2 (g := (mkF m 11 #[.val (.ref r0), .val (.ref r1), .unset, .unset, .unset] [(.int (2 : Int32)), (.ref r0)])) rfl (hb hby dn_d11) rfl (by decide) (cap := 2) (by decide) (by decide) (by decide) (by decide)
  obtain ⟨b11, g3⟩ : ∃ z, z = h0.size := ⟨_, rfl⟩
  have g_b11 : n0 ≤ b11 := Nat.le_trans Z0 (Nat.le_of_eq g3.symm)
  have ne_r0_b11 : r0 ≠ b11 := Nat.ne_of_lt (Nat.lt_of_lt_of_le H0.lt (Nat.le_of_eq g3.symm))
  have ne_r1_b11 : r1 ≠ b11 := Nat.ne_of_lt (Nat.lt_of_lt_of_le H4.lt (Nat.le_of_eq g3.symm))
  have ne_ed_b11 : ed ≠ b11 := Nat.ne_of_lt (Nat.lt_of_lt_of_le H7.lt (Nat.le_of_eq g3.symm))
  have ne_x0_b11 : x0 ≠ b11 := Nat.ne_of_lt (Nat.lt_of_lt_of_le H8.lt (Nat.le_of_eq g3.symm))
  have ne_x1_b11 : x1 ≠ b11 := Nat.ne_of_lt (Nat.lt_of_lt_of_le H11.lt (Nat.le_of_eq g3.symm))
  rw [← g3] at A3 st3
  have sz_b11 : h0.size ≤ b11 := Nat.le_trans (Keep.refl h0 [r0]).1 (Nat.le_of_eq g3.symm)
  have Z3 : n0 ≤ h3.size := Nat.le_trans Z0 E3.1
  have F4 := Exa.ext E3 H0
  have F5 := Fld.ext E3 H1
  have F6 := Fld.ext E3 H2
  have F7 := Fld.ext E3 H3
  have F8 := Exa.ext E3 H4
  have F9 := Fld.ext E3 H5
  have F10 := Fld.ext E3 H6
  have F11 := H7.ext E3
  have F12 := Exa.ext E3 H8
  have F13 := Fld.ext E3 H9
  have F14 := Fld.ext E3 H10
  have F15 := Exa.ext E3 H11
  have F16 := Fld.ext E3 H12
  have F17 := Fld.ext E3 H13
  obtain ⟨f11, hf11, V3⟩ : ∃ f11 : Nat → Int32, f11 = (fun _ => 0) ∧ IA Z h3 b11 .int 2 f11 := ⟨_, rfl, IA.new A3 rfl rfl (by decide)⟩
  have Kp3 : Keep h0 h3 [r0] := (Keep.refl h0 [r0]).ext E3
  obtain ⟨T18, h18, X18, e18, W18, st18⟩ := putF X3 hx hZ hown (host := "") (Or.inl (hw _ (gw 46 rfl))) Via.refl e3 F5 F4 (Or.inr ⟨(hw _ (gw 47 rfl)), rfl, hnm⟩) (hw _ (gw 28 rfl)) (ty := (.array .int)) (by decide) rfl rfl (g := (mkF m 13 #[.val (.ref r0), .val (.ref r1), .unset, .unset, .unset] [(.ref b11), (.ref r0)])) rfl rfl (hb hby dn_d13)
  have Z18 : n0 ≤ h18.size := Nat.le_trans Z3 (Keep.of_wr W18).1
  have N18 := Fr.snoc X18 N2 g_r0
  have F19 := Exa.wr W18 F4
  have F20 := Fld.other W18 F6 (Or.inr (slot_ne (Or.inr (hw _ (gw 49 rfl))) (Or.inr (hw _ (gw 47 rfl))) (by decide) (t := .int) (t' := (.array .int)) (by decide) (by decide)))
  have F21 := Fld.other W18 F7 (Or.inr (slot_ne (Or.inr (hw _ (gw 51 rfl))) (Or.inr (hw _ (gw 47 rfl))) (by decide) (t := .int) (t' := (.array .int)) (by decide) (by decide)))
  have F22 := Exa.wr W18 F8
  have F23 := Fld.other W18 F9 (Or.inl (Ne.symm n_r0_r1))
  have F24 := Fld.other W18 F10 (Or.inl (Ne.symm n_r0_r1))
  have F25 := F11.other W18 (Ne.symm n_r0_ed)
  have F26 := Exa.wr W18 F12
  have F27 := Fld.other W18 F13 (Or.inl (Ne.symm n_r0_x0))
  have F28 := Fld.other W18 F14 (Or.inl (Ne.symm n_r0_x0))
  have F29 := Exa.wr W18 F15
  have F30 := Fld.other W18 F16 (Or.inl (Ne.symm n_r0_x1))
  have F31 := Fld.other W18 F17 (Or.inl (Ne.symm n_r0_x1))
  have F32 := V3.other W18 (Ne.symm ne_r0_b11)
  have Kp18 : Keep h0 h18 [r0] := Kp3.wr W18 (Or.inl (List.mem_of_getElem? (i := 0) rfl))
  have F33 : Fld Z h18 r0 "com/example/termwright/termwright/DocumentNumbers" "bases" "[I" (.ref b11) := Fld.same W18 F5
  obtain ⟨cq34, kq34, q34a, q34b, q34c⟩ := isOf hZ e18 F22
  obtain ⟨_, _, ⟨T34, L34, k34, n34⟩, -, X34, ⟨Lc34, hQ34, l34, y34, z34⟩, st34⟩ := X18.interfaceBack hx (xi := (⟨"java/util/List", "size", "()I"⟩ : MethodName)) (y := (⟨"java/util/ArrayList", "size", "()I"⟩ : MethodName)) hown (mvT hZ (hw _ (gw 34 rfl))) (mvT hZ (hw _ (gw 35 rfl))) (mvT hZ (hw _ (gw 36 rfl))) (mvT hZ (hw _ (gw 37 rfl))) (mvT hZ (hw _ (gw 38 rfl))) (mvT hZ (hw _ (gw 39 rfl))) (mvT hZ (hw _ (gw 40 rfl))) (mvT hZ (hw _ (gw 41 rfl))) (by decide) (backOf (W := 1) (rm_siz l Z a0 hw [] r1 (2 : Int32) h18 n0 Z18 F23) hZ (hw _ (gw 42 rfl)) (hw _ (gw 3 rfl)) (by decide) (by decide)) q34a q34b q34c (g := (mkF m 26 #[.val (.ref r0), .val (.ref r1), .val (.int (0 : Int32)), .val (.int (0 : Int32)), .val (.int (0 : Int32))] [(.ref r1), (.int (0 : Int32))])) rfl (by rw [hml]; rfl) (Steps.refl _) (argsL := []) (rest := [(.int (0 : Int32))]) (lenOf dn2_pd0 rfl) rfl (by show 2 * 0 + _ ≤ _; exact Nat.le_of_eq rfl) (hb hby dn_d26) (fun _ _ => ⟨rfl, e18, (by decide : 1 + 0 ≤ _), (by decide : 2 + 0 ≤ _)⟩)
  dsimp only [Pt.U, Pt.locs, Pt.cells, Pt.slots] at X34 l34 y34 z34 st34 hQ34
  rw [l34, y34, z34] at X34
  obtain ⟨rfl, N34q, e34⟩ := hQ34
  have N34 := Fr.app N18 N34q
  obtain ⟨T35, X35, e35, st35⟩ := getF X34 hx hZ hown (host := "") (Or.inl (hw _ (gw 46 rfl))) Via.refl e34 F33 (g := (mkF m 35 #[.val (.ref r0), .val (.ref r1), .val (.int (0 : Int32)), .val (.int (0 : Int32)), .val (.int (0 : Int32))] [(.ref r0)])) rfl rfl (hb hby dn_d35)
  obtain ⟨T36, h36, X36, e36, ⟨sl36, vv36, W36⟩, V36, st36⟩ := stIA X35 hx hZ e35 F32 (j := (0 : Int32)) (x := (0 : Int32)) (by decide) (g := (mkF m 41 #[.val (.ref r0), .val (.ref r1), .val (.int (0 : Int32)), .val (.int (0 : Int32)), .val (.int (0 : Int32))] [(.int (0 : Int32)), (.int (0 : Int32)), (.ref b11)])) rfl rfl (hb hby dn_d41)
  have Z36 : n0 ≤ h36.size := Nat.le_trans Z18 (Keep.of_wr W36).1
  have N36 := Fr.snoc X36 N34 g_b11
  have F37 := Exa.wr W36 F19
  have F38 := Fld.other W36 F33 (Or.inl ne_r0_b11)
  have F39 := Fld.other W36 F20 (Or.inl ne_r0_b11)
  have F40 := Fld.other W36 F21 (Or.inl ne_r0_b11)
  have F41 := Exa.wr W36 F22
  have F42 := Fld.other W36 F23 (Or.inl ne_r1_b11)
  have F43 := Fld.other W36 F24 (Or.inl ne_r1_b11)
  have F44 := F25.other W36 ne_ed_b11
  have F45 := Exa.wr W36 F26
  have F46 := Fld.other W36 F27 (Or.inl ne_x0_b11)
  have F47 := Fld.other W36 F28 (Or.inl ne_x0_b11)
  have F48 := Exa.wr W36 F29
  have F49 := Fld.other W36 F30 (Or.inl ne_x1_b11)
  have F50 := Fld.other W36 F31 (Or.inl ne_x1_b11)
  have Kp36 : Keep h0 h36 [r0] := Kp18.wr W36 (Or.inr sz_b11)
  obtain ⟨f41, hf41, V36'⟩ : ∃ f41 : Nat → Int32, f41 = (upd f11 ((0 : Int32)).toNatClampNeg (0 : Int32)) ∧ IA Z h36 b11 .int 2 f41 := ⟨_, rfl, V36⟩
  obtain ⟨cq51, kq51, q51a, q51b, q51c⟩ := isOf hZ e36 F41
  obtain ⟨_, _, ⟨T51, L51, k51, n51⟩, -, X51, ⟨Lc51, hQ51, l51, y51, z51⟩, st51⟩ := X36.interfaceBack hx (xi := (⟨"java/util/List", "get", "(I)Ljava/lang/Object;"⟩ : MethodName)) (y := (⟨"java/util/ArrayList", "get", "(I)Ljava/lang/Object;"⟩ : MethodName)) hown (mvT hZ (hw _ (gw 119 rfl))) (mvT hZ (hw _ (gw 120 rfl))) (mvT hZ (hw _ (gw 121 rfl))) (mvT hZ (hw _ (gw 122 rfl))) (mvT hZ (hw _ (gw 123 rfl))) (mvT hZ (hw _ (gw 124 rfl))) (mvT hZ (hw _ (gw 125 rfl))) (mvT hZ (hw _ (gw 41 rfl))) (by decide) (backOf (W := 1) (rm_get l Z a0 hw [] r1 (0 : Int32) (2 : Int32) ed x0 f h36 n0 Z36 F41 F43 F44 F42 (by decide) hf0 (by decide) (by decide)) hZ (hw _ (gw 126 rfl)) (hw _ (gw 3 rfl)) (by decide) (by decide)) q51a q51b q51c (g := (mkF m 46 #[.val (.ref r0), .val (.ref r1), .val (.int (0 : Int32)), .val (.int (0 : Int32)), .val (.int (0 : Int32))] [(.int (0 : Int32)), (.ref r1), (.int (0 : Int32))])) rfl (by rw [hml]; rfl) (Steps.refl _) (argsL := [(.int (0 : Int32))]) (rest := [(.int (0 : Int32))]) (lenOf dn2_pd1 rfl) rfl (by show 2 * 0 + _ ≤ _; exact Nat.le_of_eq rfl) (hb hby dn_d46) (fun _ _ => ⟨rfl, e36, (by decide : 1 + 0 ≤ _), (by decide : 2 + 0 ≤ _)⟩)
  dsimp only [Pt.U, Pt.locs, Pt.cells, Pt.slots] at X51 l51 y51 z51 st51 hQ51
  rw [l51, y51, z51] at X51
  obtain ⟨rfl, N51q, e51⟩ := hQ51
  have N51 := Fr.app N36 N51q
  obtain ⟨T52, X52, e52, st52⟩ := castY X51 hx hZ hown (hw _ (gw 140 rfl)) e51 (Ins.self F45) (g := (mkF m 51 #[.val (.ref r0), .val (.ref r1), .val (.int (0 : Int32)), .val (.int (0 : Int32)), .val (.int (0 : Int32))] [(.ref x0), (.int (0 : Int32))])) rfl rfl (hb hby dn_d51)
  obtain ⟨cq53, kq53, q53a, q53b, q53c⟩ := isOf hZ e52 F45
  obtain ⟨_, _, ⟨T53, L53, k53, n53⟩, -, X53, ⟨Lc53, hQ53, l53, y53, z53⟩, st53⟩ := X52.virtualBack hx (y := (⟨"com/example/termwright/termwright/Commit$Segment", "documentCount", "()I"⟩ : MethodName)) (z := (⟨"com/example/termwright/termwright/Commit$Segment", "documentCount", "()I"⟩ : MethodName)) hown (mvT hZ (hw _ (gw 142 rfl))) (mvT hZ (hw _ (gw 143 rfl))) (notFace_of_selects (args := #[]) (mvT hZ (hw _ (gw 145 rfl)))) (mvT hZ (hw _ (gw 145 rfl))) (mvT hZ (hw _ (gw 144 rfl))) (by decide) (backOf (W := 1) (rm_dcn l Z a0 hw [] x0 d0 h36 n0 Z36 F46) hZ (hw _ (gw 146 rfl)) (hw _ (gw 59 rfl)) (by decide) (by decide)) q53a q53c (g := (mkF m 54 #[.val (.ref r0), .val (.ref r1), .val (.int (0 : Int32)), .val (.int (0 : Int32)), .val (.int (0 : Int32))] [(.ref x0), (.int (0 : Int32))])) rfl (by rw [hml]; rfl) (Steps.refl _) (argsL := []) (rest := [(.int (0 : Int32))]) (lenOf dn2_pd0 rfl) rfl (by show 2 * 0 + _ ≤ _; exact Nat.le_of_eq rfl) (hb hby dn_d54) (fun _ _ => ⟨rfl, e52, (by decide : 1 + 0 ≤ _), (by decide : 2 + 0 ≤ _)⟩)
  dsimp only [Pt.U, Pt.locs, Pt.cells, Pt.slots] at X53 l53 y53 z53 st53 hQ53
  rw [l53, y53, z53] at X53
  obtain ⟨rfl, N53q, e53⟩ := hQ53
  have N53 := Fr.app N51 N53q
  obtain ⟨_, _, ⟨T54, L54, k54, n54⟩, -, X54, ⟨Lc54, hQ54, l54, y54, z54⟩, st54⟩ := Jvm.LawKit.callS X53 hx (y := (⟨"java/lang/Math", "addExact", "(II)I"⟩ : MethodName)) hown (mvT hZ (hw _ (gw 147 rfl))) (mvT hZ (hw _ (gw 148 rfl))) (mvT hZ (hw _ (gw 114 rfl))) (mvT hZ (hw _ (gw 149 rfl))) (by decide) (backOf (W := 0) (rm_adx l Z a0 hw [] (0 : Int32) d0 h36 n0 Z36 hs0) hZ (hw _ (gw 149 rfl)) (hw _ (gw 114 rfl)) (by decide) (by decide)) (g := (mkF m 57 #[.val (.ref r0), .val (.ref r1), .val (.int (0 : Int32)), .val (.int (0 : Int32)), .val (.int (0 : Int32))] [(.int d0), (.int (0 : Int32))])) rfl (by rw [hml]; rfl) (argsL := [(.int (0 : Int32)), (.int d0)]) (rest := []) (lenOf dn2_pd2 rfl) rfl (by show 2 * 0 + _ ≤ _; exact Nat.le_of_eq rfl) (hb hby dn_d57) (fun _ _ => ⟨rfl, e53, (by decide : 1 + 0 ≤ _), (by decide : 2 + 0 ≤ _)⟩)
  dsimp only [Pt.U, Pt.locs, Pt.cells, Pt.slots] at X54 l54 y54 z54 st54 hQ54
  rw [l54, y54, z54] at X54
  obtain ⟨rfl, N54q, e54⟩ := hQ54
  have N54 := Fr.app N53 N54q
  have K55 : ∀ t, Steps p.tables e below (T54.setTop (mkF m 61 #[.val (.ref r0), .val (.ref r1), .val (.int ((0 : Int32) + d0)), .val (.int (0 : Int32)), .val (.int (0 : Int32))] [])) t → P0 t := by
    intro t kt
    refine K0 t ?_
    refine XS.aloadN X0.here hx rfl (hb hby dn_d0) rfl rfl ?_
    show Steps p.tables e below (s₁.setTop (mkF m 1 #[.val (.ref r0), .val (.ref r1), .unset, .unset, .unset] [(.ref r0)])) t
    refine st1 _ ?_
    refine XS.aloadN X1.here hx rfl (hb hby dn_d4) rfl rfl ?_
    refine XS.aloadN X1.here hx rfl (hb hby dn_d5) rfl rfl ?_
    show Steps p.tables e below (T1.setTop (mkF m 6 #[.val (.ref r0), .val (.ref r1), .unset, .unset, .unset] [(.ref r1), (.ref r0)])) t
    refine st2.trans ?_
    show Steps p.tables e below (T2.setTop (mkF m 11 #[.val (.ref r0), .val (.ref r1), .unset, .unset, .unset] [(.int (2 : Int32)), (.ref r0)])) t
    refine st3 _ ?_
    show Steps p.tables e below (T3.setTop (mkF m 13 #[.val (.ref r0), .val (.ref r1), .unset, .unset, .unset] [(.ref b11), (.ref r0)])) t
    refine st18 _ ?_
    refine XS.iconst X18.here hx rfl (hb hby dn_d16) ?_
    show Steps p.tables e below (T18.setTop (mkF m 17 #[.val (.ref r0), .val (.ref r1), .unset, .unset, .unset] [(.int (0 : Int32))])) t
    refine XS.istoreN X18.here hx rfl (hb hby dn_d17) rfl (l' := #[.val (.ref r0), .val (.ref r1), .val (.int (0 : Int32)), .unset, .unset]) rfl ?_
    refine XS.iconst X18.here hx rfl (hb hby dn_d18) ?_
    show Steps p.tables e below (T18.setTop (mkF m 19 #[.val (.ref r0), .val (.ref r1), .val (.int (0 : Int32)), .unset, .unset] [(.int (0 : Int32))])) t
    refine XS.istoreN X18.here hx rfl (hb hby dn_d19) rfl (l' := #[.val (.ref r0), .val (.ref r1), .val (.int (0 : Int32)), .val (.int (0 : Int32)), .unset]) rfl ?_
    refine XS.iconst X18.here hx rfl (hb hby dn_d20) ?_
    show Steps p.tables e below (T18.setTop (mkF m 21 #[.val (.ref r0), .val (.ref r1), .val (.int (0 : Int32)), .val (.int (0 : Int32)), .unset] [(.int (0 : Int32))])) t
    refine XS.istore X18.here hx rfl (hb hby dn_d21) rfl (l' := #[.val (.ref r0), .val (.ref r1), .val (.int (0 : Int32)), .val (.int (0 : Int32)), .val (.int (0 : Int32))]) rfl ?_
    refine XS.iload X18.here hx rfl (hb hby dn_d23) rfl ?_
    refine XS.aloadN X18.here hx rfl (hb hby dn_d25) rfl rfl ?_
    show Steps p.tables e below (T18.setTop (mkF m 26 #[.val (.ref r0), .val (.ref r1), .val (.int (0 : Int32)), .val (.int (0 : Int32)), .val (.int (0 : Int32))] [(.ref r1), (.int (0 : Int32))])) t
    refine st34.trans ?_
    show Steps p.tables e below (T34.setTop (mkF m 31 #[.val (.ref r0), .val (.ref r1), .val (.int (0 : Int32)), .val (.int (0 : Int32)), .val (.int (0 : Int32))] [(.int (2 : Int32)), (.int (0 : Int32))])) t
    refine XS.icmpNo X34.here hx rfl (hb hby dn_d31) rfl (tlt (by decide)).2.1 ?_
    refine XS.aloadN X34.here hx rfl (hb hby dn_d34) rfl rfl ?_
    show Steps p.tables e below (T34.setTop (mkF m 35 #[.val (.ref r0), .val (.ref r1), .val (.int (0 : Int32)), .val (.int (0 : Int32)), .val (.int (0 : Int32))] [(.ref r0)])) t
    refine st35 _ ?_
    refine XS.iload X35.here hx rfl (hb hby dn_d38) rfl ?_
    refine XS.iloadN X35.here hx rfl (hb hby dn_d40) rfl ?_
    show Steps p.tables e below (T35.setTop (mkF m 41 #[.val (.ref r0), .val (.ref r1), .val (.int (0 : Int32)), .val (.int (0 : Int32)), .val (.int (0 : Int32))] [(.int (0 : Int32)), (.int (0 : Int32)), (.ref b11)])) t
    refine st36 _ ?_
    refine XS.iloadN X36.here hx rfl (hb hby dn_d42) rfl ?_
    refine XS.aloadN X36.here hx rfl (hb hby dn_d43) rfl rfl ?_
    refine XS.iload X36.here hx rfl (hb hby dn_d44) rfl ?_
    show Steps p.tables e below (T36.setTop (mkF m 46 #[.val (.ref r0), .val (.ref r1), .val (.int (0 : Int32)), .val (.int (0 : Int32)), .val (.int (0 : Int32))] [(.int (0 : Int32)), (.ref r1), (.int (0 : Int32))])) t
    refine st51.trans ?_
    show Steps p.tables e below (T51.setTop (mkF m 51 #[.val (.ref r0), .val (.ref r1), .val (.int (0 : Int32)), .val (.int (0 : Int32)), .val (.int (0 : Int32))] [(.ref x0), (.int (0 : Int32))])) t
    refine st52 _ ?_
    show Steps p.tables e below (T52.setTop (mkF m 54 #[.val (.ref r0), .val (.ref r1), .val (.int (0 : Int32)), .val (.int (0 : Int32)), .val (.int (0 : Int32))] [(.ref x0), (.int (0 : Int32))])) t
    refine st53.trans ?_
    show Steps p.tables e below (T53.setTop (mkF m 57 #[.val (.ref r0), .val (.ref r1), .val (.int (0 : Int32)), .val (.int (0 : Int32)), .val (.int (0 : Int32))] [(.int d0), (.int (0 : Int32))])) t
    refine st54 _ ?_
    show Steps p.tables e below (T54.setTop (mkF m 60 #[.val (.ref r0), .val (.ref r1), .val (.int (0 : Int32)), .val (.int (0 : Int32)), .val (.int (0 : Int32))] [(.int ((0 : Int32) + d0))])) t
    refine XS.istoreN X54.here hx rfl (hb hby dn_d60) rfl (l' := #[.val (.ref r0), .val (.ref r1), .val (.int ((0 : Int32) + d0)), .val (.int (0 : Int32)), .val (.int (0 : Int32))]) rfl ?_
    exact kt
  obtain ⟨v60, hv60, K56⟩ : ∃ v60 : Int32, v60 = ((0 : Int32) + d0) ∧ ∀ t, Steps p.tables e below (T54.setTop (mkF m 61 #[.val (.ref r0), .val (.ref r1), .val (.int v60), .val (.int (0 : Int32)), .val (.int (0 : Int32))] [])) t → P0 t := ⟨_, rfl, K55⟩
  obtain ⟨cq57, kq57, q57a, q57b, q57c⟩ := isOf hZ e54 F41
  obtain ⟨_, _, ⟨T57, L57, k57, n57⟩, -, X57, ⟨Lc57, hQ57, l57, y57, z57⟩, st57⟩ := X54.interfaceBack hx (xi := (⟨"java/util/List", "get", "(I)Ljava/lang/Object;"⟩ : MethodName)) (y := (⟨"java/util/ArrayList", "get", "(I)Ljava/lang/Object;"⟩ : MethodName)) hown (mvT hZ (hw _ (gw 119 rfl))) (mvT hZ (hw _ (gw 120 rfl))) (mvT hZ (hw _ (gw 121 rfl))) (mvT hZ (hw _ (gw 122 rfl))) (mvT hZ (hw _ (gw 123 rfl))) (mvT hZ (hw _ (gw 124 rfl))) (mvT hZ (hw _ (gw 125 rfl))) (mvT hZ (hw _ (gw 41 rfl))) (by decide) (backOf (W := 1) (rm_get l Z a0 hw [] r1 (0 : Int32) (2 : Int32) ed x0 f h36 n0 Z36 F41 F43 F44 F42 (by decide) hf0 (by decide) (by decide)) hZ (hw _ (gw 126 rfl)) (hw _ (gw 3 rfl)) (by decide) (by decide)) q57a q57b q57c (g := (mkF m 65 #[.val (.ref r0), .val (.ref r1), .val (.int v60), .val (.int (0 : Int32)), .val (.int (0 : Int32))] [(.int (0 : Int32)), (.ref r1), (.int (0 : Int32))])) rfl (by rw [hml]; rfl) (Steps.refl _) (argsL := [(.int (0 : Int32))]) (rest := [(.int (0 : Int32))]) (lenOf dn2_pd1 rfl) rfl (by show 2 * 0 + _ ≤ _; exact Nat.le_of_eq rfl) (hb hby dn_d65) (fun _ _ => ⟨rfl, e54, (by decide : 1 + 0 ≤ _), (by decide : 2 + 0 ≤ _)⟩)
  dsimp only [Pt.U, Pt.locs, Pt.cells, Pt.slots] at X57 l57 y57 z57 st57 hQ57
  rw [l57, y57, z57] at X57
  obtain ⟨rfl, N57q, e57⟩ := hQ57
  have N57 := Fr.app N54 N57q
  obtain ⟨T58, X58, e58, st58⟩ := castY X57 hx hZ hown (hw _ (gw 140 rfl)) e57 (Ins.self F45) (g := (mkF m 70 #[.val (.ref r0), .val (.ref r1), .val (.int v60), .val (.int (0 : Int32)), .val (.int (0 : Int32))] [(.ref x0), (.int (0 : Int32))])) rfl rfl (hb hby dn_d70)
  obtain ⟨cq59, kq59, q59a, q59b, q59c⟩ := isOf hZ e58 F45
  obtain ⟨_, _, ⟨T59, L59, k59, n59⟩, -, X59, ⟨Lc59, hQ59, l59, y59, z59⟩, st59⟩ := X58.virtualBack hx (y := (⟨"com/example/termwright/termwright/Commit$Segment", "deletedCount", "()I"⟩ : MethodName)) (z := (⟨"com/example/termwright/termwright/Commit$Segment", "deletedCount", "()I"⟩ : MethodName)) hown (mvT hZ (hw _ (gw 150 rfl))) (mvT hZ (hw _ (gw 151 rfl))) (notFace_of_selects (args := #[]) (mvT hZ (hw _ (gw 153 rfl)))) (mvT hZ (hw _ (gw 153 rfl))) (mvT hZ (hw _ (gw 152 rfl))) (by decide) (backOf (W := 1) (rm_dlc l Z a0 hw [] x0 h36 n0 Z36 F47) hZ (hw _ (gw 154 rfl)) (hw _ (gw 59 rfl)) (by decide) (by decide)) q59a q59c (g := (mkF m 73 #[.val (.ref r0), .val (.ref r1), .val (.int v60), .val (.int (0 : Int32)), .val (.int (0 : Int32))] [(.ref x0), (.int (0 : Int32))])) rfl (by rw [hml]; rfl) (Steps.refl _) (argsL := []) (rest := [(.int (0 : Int32))]) (lenOf dn2_pd0 rfl) rfl (by show 2 * 0 + _ ≤ _; exact Nat.le_of_eq rfl) (hb hby dn_d73) (fun _ _ => ⟨rfl, e58, (by decide : 1 + 0 ≤ _), (by decide : 2 + 0 ≤ _)⟩)
  dsimp only [Pt.U, Pt.locs, Pt.cells, Pt.slots] at X59 l59 y59 z59 st59 hQ59
  rw [l59, y59, z59] at X59
  obtain ⟨rfl, N59q, e59⟩ := hQ59
  have N59 := Fr.app N57 N59q
  obtain ⟨cq60, kq60, q60a, q60b, q60c⟩ := isOf hZ e59 F41
  obtain ⟨_, _, ⟨T60, L60, k60, n60⟩, -, X60, ⟨Lc60, hQ60, l60, y60, z60⟩, st60⟩ := X59.interfaceBack hx (xi := (⟨"java/util/List", "size", "()I"⟩ : MethodName)) (y := (⟨"java/util/ArrayList", "size", "()I"⟩ : MethodName)) hown (mvT hZ (hw _ (gw 34 rfl))) (mvT hZ (hw _ (gw 35 rfl))) (mvT hZ (hw _ (gw 36 rfl))) (mvT hZ (hw _ (gw 37 rfl))) (mvT hZ (hw _ (gw 38 rfl))) (mvT hZ (hw _ (gw 39 rfl))) (mvT hZ (hw _ (gw 40 rfl))) (mvT hZ (hw _ (gw 41 rfl))) (by decide) (backOf (W := 1) (rm_siz l Z a0 hw [] r1 (2 : Int32) h36 n0 Z36 F42) hZ (hw _ (gw 42 rfl)) (hw _ (gw 3 rfl)) (by decide) (by decide)) q60a q60b q60c (g := (mkF m 26 #[.val (.ref r0), .val (.ref r1), .val (.int v60), .val (.int (0 : Int32)), .val (.int (1 : Int32))] [(.ref r1), (.int (1 : Int32))])) rfl (by rw [hml]; rfl) (Steps.refl _) (argsL := []) (rest := [(.int (1 : Int32))]) (lenOf dn2_pd0 rfl) rfl (by show 2 * 0 + _ ≤ _; exact Nat.le_of_eq rfl) (hb hby dn_d26) (fun _ _ => ⟨rfl, e59, (by decide : 1 + 0 ≤ _), (by decide : 2 + 0 ≤ _)⟩)
  dsimp only [Pt.U, Pt.locs, Pt.cells, Pt.slots] at X60 l60 y60 z60 st60 hQ60
  rw [l60, y60, z60] at X60
  obtain ⟨rfl, N60q, e60⟩ := hQ60
  have N60 := Fr.app N59 N60q
  obtain ⟨T61, X61, e61, st61⟩ := getF X60 hx hZ hown (host := "") (Or.inl (hw _ (gw 46 rfl))) Via.refl e60 F38 (g := (mkF m 35 #[.val (.ref r0), .val (.ref r1), .val (.int v60), .val (.int (0 : Int32)), .val (.int (1 : Int32))] [(.ref r0)])) rfl rfl (hb hby dn_d35)
  obtain ⟨T62, h62, X62, e62, ⟨sl62, vv62, W62⟩, V62, st62⟩ := stIA X61 hx hZ e61 V36' (j := (1 : Int32)) (x := v60) (by decide) (g := (mkF m 41 #[.val (.ref r0), .val (.ref r1), .val (.int v60), .val (.int (0 : Int32)), .val (.int (1 : Int32))] [(.int v60), (.int (1 : Int32)), (.ref b11)])) rfl rfl (hb hby dn_d41)
  have Z62 : n0 ≤ h62.size := Nat.le_trans Z36 (Keep.of_wr W62).1
  have N62 := Fr.snoc X62 N60 g_b11
  have F63 := Exa.wr W62 F37
  have F64 := Fld.other W62 F38 (Or.inl ne_r0_b11)
  have F65 := Fld.other W62 F39 (Or.inl ne_r0_b11)
  have F66 := Fld.other W62 F40 (Or.inl ne_r0_b11)
  have F67 := Exa.wr W62 F41
  have F68 := Fld.other W62 F42 (Or.inl ne_r1_b11)
  have F69 := Fld.other W62 F43 (Or.inl ne_r1_b11)
  have F70 := F44.other W62 ne_ed_b11
  have F71 := Exa.wr W62 F45
  have F72 := Fld.other W62 F46 (Or.inl ne_x0_b11)
  have F73 := Fld.other W62 F47 (Or.inl ne_x0_b11)
  have F74 := Exa.wr W62 F48
  have F75 := Fld.other W62 F49 (Or.inl ne_x1_b11)
  have F76 := Fld.other W62 F50 (Or.inl ne_x1_b11)
  have Kp62 : Keep h0 h62 [r0] := Kp36.wr W62 (Or.inr sz_b11)
  obtain ⟨f41_1, hf41_1, V62'⟩ : ∃ f41_1 : Nat → Int32, f41_1 = (upd f41 ((1 : Int32)).toNatClampNeg v60) ∧ IA Z h62 b11 .int 2 f41_1 := ⟨_, rfl, V62⟩
  obtain ⟨cq77, kq77, q77a, q77b, q77c⟩ := isOf hZ e62 F67
  obtain ⟨_, _, ⟨T77, L77, k77, n77⟩, -, X77, ⟨Lc77, hQ77, l77, y77, z77⟩, st77⟩ := X62.interfaceBack hx (xi := (⟨"java/util/List", "get", "(I)Ljava/lang/Object;"⟩ : MethodName)) (y := (⟨"java/util/ArrayList", "get", "(I)Ljava/lang/Object;"⟩ : MethodName)) hown (mvT hZ (hw _ (gw 119 rfl))) (mvT hZ (hw _ (gw 120 rfl))) (mvT hZ (hw _ (gw 121 rfl))) (mvT hZ (hw _ (gw 122 rfl))) (mvT hZ (hw _ (gw 123 rfl))) (mvT hZ (hw _ (gw 124 rfl))) (mvT hZ (hw _ (gw 125 rfl))) (mvT hZ (hw _ (gw 41 rfl))) (by decide) (backOf (W := 1) (rm_get l Z a0 hw [] r1 (1 : Int32) (2 : Int32) ed x1 f h62 n0 Z62 F67 F69 F70 F68 (by decide) hf1 (by decide) (by decide)) hZ (hw _ (gw 126 rfl)) (hw _ (gw 3 rfl)) (by decide) (by decide)) q77a q77b q77c (g := (mkF m 46 #[.val (.ref r0), .val (.ref r1), .val (.int v60), .val (.int (0 : Int32)), .val (.int (1 : Int32))] [(.int (1 : Int32)), (.ref r1), (.int v60)])) rfl (by rw [hml]; rfl) (Steps.refl _) (argsL := [(.int (1 : Int32))]) (rest := [(.int v60)]) (lenOf dn2_pd1 rfl) rfl (by show 2 * 0 + _ ≤ _; exact Nat.le_of_eq rfl) (hb hby dn_d46) (fun _ _ => ⟨rfl, e62, (by decide : 1 + 0 ≤ _), (by decide : 2 + 0 ≤ _)⟩)
  dsimp only [Pt.U, Pt.locs, Pt.cells, Pt.slots] at X77 l77 y77 z77 st77 hQ77
  rw [l77, y77, z77] at X77
  obtain ⟨rfl, N77q, e77⟩ := hQ77
  have N77 := Fr.app N62 N77q
  obtain ⟨T78, X78, e78, st78⟩ := castY X77 hx hZ hown (hw _ (gw 140 rfl)) e77 (Ins.self F74) (g := (mkF m 51 #[.val (.ref r0), .val (.ref r1), .val (.int v60), .val (.int (0 : Int32)), .val (.int (1 : Int32))] [(.ref x1), (.int v60)])) rfl rfl (hb hby dn_d51)
  obtain ⟨cq79, kq79, q79a, q79b, q79c⟩ := isOf hZ e78 F74
  obtain ⟨_, _, ⟨T79, L79, k79, n79⟩, -, X79, ⟨Lc79, hQ79, l79, y79, z79⟩, st79⟩ := X78.virtualBack hx (y := (⟨"com/example/termwright/termwright/Commit$Segment", "documentCount", "()I"⟩ : MethodName)) (z := (⟨"com/example/termwright/termwright/Commit$Segment", "documentCount", "()I"⟩ : MethodName)) hown (mvT hZ (hw _ (gw 142 rfl))) (mvT hZ (hw _ (gw 143 rfl))) (notFace_of_selects (args := #[]) (mvT hZ (hw _ (gw 145 rfl)))) (mvT hZ (hw _ (gw 145 rfl))) (mvT hZ (hw _ (gw 144 rfl))) (by decide) (backOf (W := 1) (rm_dcn l Z a0 hw [] x1 d1 h62 n0 Z62 F75) hZ (hw _ (gw 146 rfl)) (hw _ (gw 59 rfl)) (by decide) (by decide)) q79a q79c (g := (mkF m 54 #[.val (.ref r0), .val (.ref r1), .val (.int v60), .val (.int (0 : Int32)), .val (.int (1 : Int32))] [(.ref x1), (.int v60)])) rfl (by rw [hml]; rfl) (Steps.refl _) (argsL := []) (rest := [(.int v60)]) (lenOf dn2_pd0 rfl) rfl (by show 2 * 0 + _ ≤ _; exact Nat.le_of_eq rfl) (hb hby dn_d54) (fun _ _ => ⟨rfl, e78, (by decide : 1 + 0 ≤ _), (by decide : 2 + 0 ≤ _)⟩)
  dsimp only [Pt.U, Pt.locs, Pt.cells, Pt.slots] at X79 l79 y79 z79 st79 hQ79
  rw [l79, y79, z79] at X79
  obtain ⟨rfl, N79q, e79⟩ := hQ79
  have N79 := Fr.app N77 N79q
  obtain ⟨_, _, ⟨T80, L80, k80, n80⟩, -, X80, ⟨Lc80, hQ80, l80, y80, z80⟩, st80⟩ := Jvm.LawKit.callS X79 hx (y := (⟨"java/lang/Math", "addExact", "(II)I"⟩ : MethodName)) hown (mvT hZ (hw _ (gw 147 rfl))) (mvT hZ (hw _ (gw 148 rfl))) (mvT hZ (hw _ (gw 114 rfl))) (mvT hZ (hw _ (gw 149 rfl))) (by decide) (backOf (W := 0) (rm_adx l Z a0 hw [] v60 d1 h62 n0 Z62 (by rw [hv60]; exact hs1)) hZ (hw _ (gw 149 rfl)) (hw _ (gw 114 rfl)) (by decide) (by decide)) (g := (mkF m 57 #[.val (.ref r0), .val (.ref r1), .val (.int v60), .val (.int (0 : Int32)), .val (.int (1 : Int32))] [(.int d1), (.int v60)])) rfl (by rw [hml]; rfl) (argsL := [(.int v60), (.int d1)]) (rest := []) (lenOf dn2_pd2 rfl) rfl (by show 2 * 0 + _ ≤ _; exact Nat.le_of_eq rfl) (hb hby dn_d57) (fun _ _ => ⟨rfl, e79, (by decide : 1 + 0 ≤ _), (by decide : 2 + 0 ≤ _)⟩)
  dsimp only [Pt.U, Pt.locs, Pt.cells, Pt.slots] at X80 l80 y80 z80 st80 hQ80
  rw [l80, y80, z80] at X80
  obtain ⟨rfl, N80q, e80⟩ := hQ80
  have N80 := Fr.app N79 N80q
  have K81 : ∀ t, Steps p.tables e below (T80.setTop (mkF m 61 #[.val (.ref r0), .val (.ref r1), .val (.int (v60 + d1)), .val (.int (0 : Int32)), .val (.int (1 : Int32))] [])) t → P0 t := by
    intro t kt
    refine K56 t ?_
    refine XS.iloadN X54.here hx rfl (hb hby dn_d61) rfl ?_
    refine XS.aloadN X54.here hx rfl (hb hby dn_d62) rfl rfl ?_
    refine XS.iload X54.here hx rfl (hb hby dn_d63) rfl ?_
    show Steps p.tables e below (T54.setTop (mkF m 65 #[.val (.ref r0), .val (.ref r1), .val (.int v60), .val (.int (0 : Int32)), .val (.int (0 : Int32))] [(.int (0 : Int32)), (.ref r1), (.int (0 : Int32))])) t
    refine st57.trans ?_
    show Steps p.tables e below (T57.setTop (mkF m 70 #[.val (.ref r0), .val (.ref r1), .val (.int v60), .val (.int (0 : Int32)), .val (.int (0 : Int32))] [(.ref x0), (.int (0 : Int32))])) t
    refine st58 _ ?_
    show Steps p.tables e below (T58.setTop (mkF m 73 #[.val (.ref r0), .val (.ref r1), .val (.int v60), .val (.int (0 : Int32)), .val (.int (0 : Int32))] [(.ref x0), (.int (0 : Int32))])) t
    refine st59.trans ?_
    show Steps p.tables e below (T59.setTop (mkF m 76 #[.val (.ref r0), .val (.ref r1), .val (.int v60), .val (.int (0 : Int32)), .val (.int (0 : Int32))] [(.int (0 : Int32)), (.int (0 : Int32))])) t
    refine XS.iadd X59.here hx rfl (hb hby dn_d76) rfl ?_
    show Steps p.tables e below (T59.setTop (mkF m 77 #[.val (.ref r0), .val (.ref r1), .val (.int v60), .val (.int (0 : Int32)), .val (.int (0 : Int32))] [(.int (0 : Int32))])) t
    refine XS.istoreN X59.here hx rfl (hb hby dn_d77) rfl (l' := #[.val (.ref r0), .val (.ref r1), .val (.int v60), .val (.int (0 : Int32)), .val (.int (0 : Int32))]) rfl ?_
    show Steps p.tables e below (T59.setTop (mkF m 78 #[.val (.ref r0), .val (.ref r1), .val (.int v60), .val (.int (0 : Int32)), .val (.int (0 : Int32))] [])) t
    refine XS.iinc X59.here hx rfl (hb hby dn_d78) rfl (l' := #[.val (.ref r0), .val (.ref r1), .val (.int v60), .val (.int (0 : Int32)), .val (.int (1 : Int32))]) rfl ?_
    show Steps p.tables e below (T59.setTop (mkF m 81 #[.val (.ref r0), .val (.ref r1), .val (.int v60), .val (.int (0 : Int32)), .val (.int (1 : Int32))] [])) t
    refine XS.goto X59.here hx rfl (pc0 := 81) (pc' := 23) rfl (hb hby dn_d81) (by decide) (by decide) ?_
    refine XS.iload X59.here hx rfl (hb hby dn_d23) rfl ?_
    refine XS.aloadN X59.here hx rfl (hb hby dn_d25) rfl rfl ?_
    show Steps p.tables e below (T59.setTop (mkF m 26 #[.val (.ref r0), .val (.ref r1), .val (.int v60), .val (.int (0 : Int32)), .val (.int (1 : Int32))] [(.ref r1), (.int (1 : Int32))])) t
    refine st60.trans ?_
    show Steps p.tables e below (T60.setTop (mkF m 31 #[.val (.ref r0), .val (.ref r1), .val (.int v60), .val (.int (0 : Int32)), .val (.int (1 : Int32))] [(.int (2 : Int32)), (.int (1 : Int32))])) t
    refine XS.icmpNo X60.here hx rfl (hb hby dn_d31) rfl (tlt (by decide)).2.1 ?_
    refine XS.aloadN X60.here hx rfl (hb hby dn_d34) rfl rfl ?_
    show Steps p.tables e below (T60.setTop (mkF m 35 #[.val (.ref r0), .val (.ref r1), .val (.int v60), .val (.int (0 : Int32)), .val (.int (1 : Int32))] [(.ref r0)])) t
    refine st61 _ ?_
    refine XS.iload X61.here hx rfl (hb hby dn_d38) rfl ?_
    refine XS.iloadN X61.here hx rfl (hb hby dn_d40) rfl ?_
    show Steps p.tables e below (T61.setTop (mkF m 41 #[.val (.ref r0), .val (.ref r1), .val (.int v60), .val (.int (0 : Int32)), .val (.int (1 : Int32))] [(.int v60), (.int (1 : Int32)), (.ref b11)])) t
    refine st62 _ ?_
    refine XS.iloadN X62.here hx rfl (hb hby dn_d42) rfl ?_
    refine XS.aloadN X62.here hx rfl (hb hby dn_d43) rfl rfl ?_
    refine XS.iload X62.here hx rfl (hb hby dn_d44) rfl ?_
    show Steps p.tables e below (T62.setTop (mkF m 46 #[.val (.ref r0), .val (.ref r1), .val (.int v60), .val (.int (0 : Int32)), .val (.int (1 : Int32))] [(.int (1 : Int32)), (.ref r1), (.int v60)])) t
    refine st77.trans ?_
    show Steps p.tables e below (T77.setTop (mkF m 51 #[.val (.ref r0), .val (.ref r1), .val (.int v60), .val (.int (0 : Int32)), .val (.int (1 : Int32))] [(.ref x1), (.int v60)])) t
    refine st78 _ ?_
    show Steps p.tables e below (T78.setTop (mkF m 54 #[.val (.ref r0), .val (.ref r1), .val (.int v60), .val (.int (0 : Int32)), .val (.int (1 : Int32))] [(.ref x1), (.int v60)])) t
    refine st79.trans ?_
    show Steps p.tables e below (T79.setTop (mkF m 57 #[.val (.ref r0), .val (.ref r1), .val (.int v60), .val (.int (0 : Int32)), .val (.int (1 : Int32))] [(.int d1), (.int v60)])) t
    refine st80 _ ?_
    show Steps p.tables e below (T80.setTop (mkF m 60 #[.val (.ref r0), .val (.ref r1), .val (.int v60), .val (.int (0 : Int32)), .val (.int (1 : Int32))] [(.int (v60 + d1))])) t
    refine XS.istoreN X80.here hx rfl (hb hby dn_d60) rfl (l' := #[.val (.ref r0), .val (.ref r1), .val (.int (v60 + d1)), .val (.int (0 : Int32)), .val (.int (1 : Int32))]) rfl ?_
    exact kt
  obtain ⟨v60_1, hv60_1, K82⟩ : ∃ v60_1 : Int32, v60_1 = (v60 + d1) ∧ ∀ t, Steps p.tables e below (T80.setTop (mkF m 61 #[.val (.ref r0), .val (.ref r1), .val (.int v60_1), .val (.int (0 : Int32)), .val (.int (1 : Int32))] [])) t → P0 t := ⟨_, rfl, K81⟩
  obtain ⟨cq83, kq83, q83a, q83b, q83c⟩ := isOf hZ e80 F67
  obtain ⟨_, _, ⟨T83, L83, k83, n83⟩, -, X83, ⟨Lc83, hQ83, l83, y83, z83⟩, st83⟩ := X80.interfaceBack hx (xi := (⟨"java/util/List", "get", "(I)Ljava/lang/Object;"⟩ : MethodName)) (y := (⟨"java/util/ArrayList", "get", "(I)Ljava/lang/Object;"⟩ : MethodName)) hown (mvT hZ (hw _ (gw 119 rfl))) (mvT hZ (hw _ (gw 120 rfl))) (mvT hZ (hw _ (gw 121 rfl))) (mvT hZ (hw _ (gw 122 rfl))) (mvT hZ (hw _ (gw 123 rfl))) (mvT hZ (hw _ (gw 124 rfl))) (mvT hZ (hw _ (gw 125 rfl))) (mvT hZ (hw _ (gw 41 rfl))) (by decide) (backOf (W := 1) (rm_get l Z a0 hw [] r1 (1 : Int32) (2 : Int32) ed x1 f h62 n0 Z62 F67 F69 F70 F68 (by decide) hf1 (by decide) (by decide)) hZ (hw _ (gw 126 rfl)) (hw _ (gw 3 rfl)) (by decide) (by decide)) q83a q83b q83c (g := (mkF m 65 #[.val (.ref r0), .val (.ref r1), .val (.int v60_1), .val (.int (0 : Int32)), .val (.int (1 : Int32))] [(.int (1 : Int32)), (.ref r1), (.int (0 : Int32))])) rfl (by rw [hml]; rfl) (Steps.refl _) (argsL := [(.int (1 : Int32))]) (rest := [(.int (0 : Int32))]) (lenOf dn2_pd1 rfl) rfl (by show 2 * 0 + _ ≤ _; exact Nat.le_of_eq rfl) (hb hby dn_d65) (fun _ _ => ⟨rfl, e80, (by decide : 1 + 0 ≤ _), (by decide : 2 + 0 ≤ _)⟩)
  dsimp only [Pt.U, Pt.locs, Pt.cells, Pt.slots] at X83 l83 y83 z83 st83 hQ83
  rw [l83, y83, z83] at X83
  obtain ⟨rfl, N83q, e83⟩ := hQ83
  have N83 := Fr.app N80 N83q
  obtain ⟨T84, X84, e84, st84⟩ := castY X83 hx hZ hown (hw _ (gw 140 rfl)) e83 (Ins.self F74) (g := (mkF m 70 #[.val (.ref r0), .val (.ref r1), .val (.int v60_1), .val (.int (0 : Int32)), .val (.int (1 : Int32))] [(.ref x1), (.int (0 : Int32))])) rfl rfl (hb hby dn_d70)
  obtain ⟨cq85, kq85, q85a, q85b, q85c⟩ := isOf hZ e84 F74
  obtain ⟨_, _, ⟨T85, L85, k85, n85⟩, -, X85, ⟨Lc85, hQ85, l85, y85, z85⟩, st85⟩ := X84.virtualBack hx (y := (⟨"com/example/termwright/termwright/Commit$Segment", "deletedCount", "()I"⟩ : MethodName)) (z := (⟨"com/example/termwright/termwright/Commit$Segment", "deletedCount", "()I"⟩ : MethodName)) hown (mvT hZ (hw _ (gw 150 rfl))) (mvT hZ (hw _ (gw 151 rfl))) (notFace_of_selects (args := #[]) (mvT hZ (hw _ (gw 153 rfl)))) (mvT hZ (hw _ (gw 153 rfl))) (mvT hZ (hw _ (gw 152 rfl))) (by decide) (backOf (W := 1) (rm_dlc l Z a0 hw [] x1 h62 n0 Z62 F76) hZ (hw _ (gw 154 rfl)) (hw _ (gw 59 rfl)) (by decide) (by decide)) q85a q85c (g := (mkF m 73 #[.val (.ref r0), .val (.ref r1), .val (.int v60_1), .val (.int (0 : Int32)), .val (.int (1 : Int32))] [(.ref x1), (.int (0 : Int32))])) rfl (by rw [hml]; rfl) (Steps.refl _) (argsL := []) (rest := [(.int (0 : Int32))]) (lenOf dn2_pd0 rfl) rfl (by show 2 * 0 + _ ≤ _; exact Nat.le_of_eq rfl) (hb hby dn_d73) (fun _ _ => ⟨rfl, e84, (by decide : 1 + 0 ≤ _), (by decide : 2 + 0 ≤ _)⟩)
  dsimp only [Pt.U, Pt.locs, Pt.cells, Pt.slots] at X85 l85 y85 z85 st85 hQ85
  rw [l85, y85, z85] at X85
  obtain ⟨rfl, N85q, e85⟩ := hQ85
  have N85 := Fr.app N83 N85q
  obtain ⟨cq86, kq86, q86a, q86b, q86c⟩ := isOf hZ e85 F67
  obtain ⟨_, _, ⟨T86, L86, k86, n86⟩, -, X86, ⟨Lc86, hQ86, l86, y86, z86⟩, st86⟩ := X85.interfaceBack hx (xi := (⟨"java/util/List", "size", "()I"⟩ : MethodName)) (y := (⟨"java/util/ArrayList", "size", "()I"⟩ : MethodName)) hown (mvT hZ (hw _ (gw 34 rfl))) (mvT hZ (hw _ (gw 35 rfl))) (mvT hZ (hw _ (gw 36 rfl))) (mvT hZ (hw _ (gw 37 rfl))) (mvT hZ (hw _ (gw 38 rfl))) (mvT hZ (hw _ (gw 39 rfl))) (mvT hZ (hw _ (gw 40 rfl))) (mvT hZ (hw _ (gw 41 rfl))) (by decide) (backOf (W := 1) (rm_siz l Z a0 hw [] r1 (2 : Int32) h62 n0 Z62 F68) hZ (hw _ (gw 42 rfl)) (hw _ (gw 3 rfl)) (by decide) (by decide)) q86a q86b q86c (g := (mkF m 26 #[.val (.ref r0), .val (.ref r1), .val (.int v60_1), .val (.int (0 : Int32)), .val (.int (2 : Int32))] [(.ref r1), (.int (2 : Int32))])) rfl (by rw [hml]; rfl) (Steps.refl _) (argsL := []) (rest := [(.int (2 : Int32))]) (lenOf dn2_pd0 rfl) rfl (by show 2 * 0 + _ ≤ _; exact Nat.le_of_eq rfl) (hb hby dn_d26) (fun _ _ => ⟨rfl, e85, (by decide : 1 + 0 ≤ _), (by decide : 2 + 0 ≤ _)⟩)
  dsimp only [Pt.U, Pt.locs, Pt.cells, Pt.slots] at X86 l86 y86 z86 st86 hQ86
  rw [l86, y86, z86] at X86
  obtain ⟨rfl, N86q, e86⟩ := hQ86
  have N86 := Fr.app N85 N86q
  obtain ⟨T87, h87, X87, e87, W87, st87⟩ := putF X86 hx hZ hown (host := "") (Or.inl (hw _ (gw 48 rfl))) Via.refl e86 F65 F63 (Or.inr ⟨(hw _ (gw 49 rfl)), rfl, hnm⟩) (hw _ (gw 28 rfl)) (ty := .int) (by decide) rfl rfl (g := (mkF m 86 #[.val (.ref r0), .val (.ref r1), .val (.int v60_1), .val (.int (0 : Int32)), .val (.int (2 : Int32))] [(.int v60_1), (.ref r0)])) rfl rfl (hb hby dn_d86)
  have Z87 : n0 ≤ h87.size := Nat.le_trans Z62 (Keep.of_wr W87).1
  have N87 := Fr.snoc X87 N86 g_r0
  have F88 := Exa.wr W87 F63
  have F89 := Fld.other W87 F64 (Or.inr (slot_ne (Or.inr (hw _ (gw 47 rfl))) (Or.inr (hw _ (gw 49 rfl))) (by decide) (t := (.array .int)) (t' := .int) (by decide) (by decide)))
  have F90 := Fld.other W87 F66 (Or.inr (slot_ne (Or.inr (hw _ (gw 51 rfl))) (Or.inr (hw _ (gw 49 rfl))) (by decide) (t := .int) (t' := .int) (by decide) (by decide)))
  have F91 := Exa.wr W87 F67
  have F92 := Fld.other W87 F68 (Or.inl (Ne.symm n_r0_r1))
  have F93 := Fld.other W87 F69 (Or.inl (Ne.symm n_r0_r1))
  have F94 := F70.other W87 (Ne.symm n_r0_ed)
  have F95 := Exa.wr W87 F71
  have F96 := Fld.other W87 F72 (Or.inl (Ne.symm n_r0_x0))
  have F97 := Fld.other W87 F73 (Or.inl (Ne.symm n_r0_x0))
  have F98 := Exa.wr W87 F74
  have F99 := Fld.other W87 F75 (Or.inl (Ne.symm n_r0_x1))
  have F100 := Fld.other W87 F76 (Or.inl (Ne.symm n_r0_x1))
  have F101 := V62'.other W87 (Ne.symm ne_r0_b11)
  have Kp87 : Keep h0 h87 [r0] := Kp62.wr W87 (Or.inl (List.mem_of_getElem? (i := 0) rfl))
  have F102 : Fld Z h87 r0 "com/example/termwright/termwright/DocumentNumbers" "count" "I" (.int v60_1) := Fld.same W87 F65
  obtain ⟨T103, h103, X103, e103, W103, st103⟩ := putF X87 hx hZ hown (host := "") (Or.inl (hw _ (gw 50 rfl))) Via.refl e87 F90 F88 (Or.inr ⟨(hw _ (gw 51 rfl)), rfl, hnm⟩) (hw _ (gw 28 rfl)) (ty := .int) (by decide) rfl rfl (g := (mkF m 91 #[.val (.ref r0), .val (.ref r1), .val (.int v60_1), .val (.int (0 : Int32)), .val (.int (2 : Int32))] [(.int (0 : Int32)), (.ref r0)])) rfl rfl (hb hby dn_d91)
  have Z103 : n0 ≤ h103.size := Nat.le_trans Z87 (Keep.of_wr W103).1
  have N103 := Fr.snoc X103 N87 g_r0
  have F104 := Exa.wr W103 F88
  have F105 := Fld.other W103 F89 (Or.inr (slot_ne (Or.inr (hw _ (gw 47 rfl))) (Or.inr (hw _ (gw 51 rfl))) (by decide) (t := (.array .int)) (t' := .int) (by decide) (by decide)))
  have F106 := Fld.other W103 F102 (Or.inr (slot_ne (Or.inr (hw _ (gw 49 rfl))) (Or.inr (hw _ (gw 51 rfl))) (by decide) (t := .int) (t' := .int) (by decide) (by decide)))
  have F107 := Exa.wr W103 F91
  have F108 := Fld.other W103 F92 (Or.inl (Ne.symm n_r0_r1))
  have F109 := Fld.other W103 F93 (Or.inl (Ne.symm n_r0_r1))
  have F110 := F94.other W103 (Ne.symm n_r0_ed)
  have F111 := Exa.wr W103 F95
  have F112 := Fld.other W103 F96 (Or.inl (Ne.symm n_r0_x0))
  have F113 := Fld.other W103 F97 (Or.inl (Ne.symm n_r0_x0))
  have F114 := Exa.wr W103 F98
  have F115 := Fld.other W103 F99 (Or.inl (Ne.symm n_r0_x1))
  have F116 := Fld.other W103 F100 (Or.inl (Ne.symm n_r0_x1))
  have F117 := F101.other W103 (Ne.symm ne_r0_b11)
  have Kp103 : Keep h0 h103 [r0] := Kp87.wr W103 (Or.inl (List.mem_of_getElem? (i := 0) rfl))
  have F118 : Fld Z h103 r0 "com/example/termwright/termwright/DocumentNumbers" "deletedCount" "I" (.int (0 : Int32)) := Fld.same W103 F90
  have K119 : ∀ t, Steps p.tables e below (T103.setTop (mkF m 94 #[.val (.ref r0), .val (.ref r1), .val (.int v60_1), .val (.int (0 : Int32)), .val (.int (2 : Int32))] [])) t → P0 t := by
    intro t kt
    refine K82 t ?_
    refine XS.iloadN X80.here hx rfl (hb hby dn_d61) rfl ?_
    refine XS.aloadN X80.here hx rfl (hb hby dn_d62) rfl rfl ?_
    refine XS.iload X80.here hx rfl (hb hby dn_d63) rfl ?_
    show Steps p.tables e below (T80.setTop (mkF m 65 #[.val (.ref r0), .val (.ref r1), .val (.int v60_1), .val (.int (0 : Int32)), .val (.int (1 : Int32))] [(.int (1 : Int32)), (.ref r1), (.int (0 : Int32))])) t
    refine st83.trans ?_
    show Steps p.tables e below (T83.setTop (mkF m 70 #[.val (.ref r0), .val (.ref r1), .val (.int v60_1), .val (.int (0 : Int32)), .val (.int (1 : Int32))] [(.ref x1), (.int (0 : Int32))])) t
    refine st84 _ ?_
    show Steps p.tables e below (T84.setTop (mkF m 73 #[.val (.ref r0), .val (.ref r1), .val (.int v60_1), .val (.int (0 : Int32)), .val (.int (1 : Int32))] [(.ref x1), (.int (0 : Int32))])) t
    refine st85.trans ?_
    show Steps p.tables e below (T85.setTop (mkF m 76 #[.val (.ref r0), .val (.ref r1), .val (.int v60_1), .val (.int (0 : Int32)), .val (.int (1 : Int32))] [(.int (0 : Int32)), (.int (0 : Int32))])) t
    refine XS.iadd X85.here hx rfl (hb hby dn_d76) rfl ?_
    show Steps p.tables e below (T85.setTop (mkF m 77 #[.val (.ref r0), .val (.ref r1), .val (.int v60_1), .val (.int (0 : Int32)), .val (.int (1 : Int32))] [(.int (0 : Int32))])) t
    refine XS.istoreN X85.here hx rfl (hb hby dn_d77) rfl (l' := #[.val (.ref r0), .val (.ref r1), .val (.int v60_1), .val (.int (0 : Int32)), .val (.int (1 : Int32))]) rfl ?_
    show Steps p.tables e below (T85.setTop (mkF m 78 #[.val (.ref r0), .val (.ref r1), .val (.int v60_1), .val (.int (0 : Int32)), .val (.int (1 : Int32))] [])) t
    refine XS.iinc X85.here hx rfl (hb hby dn_d78) rfl (l' := #[.val (.ref r0), .val (.ref r1), .val (.int v60_1), .val (.int (0 : Int32)), .val (.int (2 : Int32))]) rfl ?_
    show Steps p.tables e below (T85.setTop (mkF m 81 #[.val (.ref r0), .val (.ref r1), .val (.int v60_1), .val (.int (0 : Int32)), .val (.int (2 : Int32))] [])) t
    refine XS.goto X85.here hx rfl (pc0 := 81) (pc' := 23) rfl (hb hby dn_d81) (by decide) (by decide) ?_
    refine XS.iload X85.here hx rfl (hb hby dn_d23) rfl ?_
    refine XS.aloadN X85.here hx rfl (hb hby dn_d25) rfl rfl ?_
    show Steps p.tables e below (T85.setTop (mkF m 26 #[.val (.ref r0), .val (.ref r1), .val (.int v60_1), .val (.int (0 : Int32)), .val (.int (2 : Int32))] [(.ref r1), (.int (2 : Int32))])) t
    refine st86.trans ?_
    show Steps p.tables e below (T86.setTop (mkF m 31 #[.val (.ref r0), .val (.ref r1), .val (.int v60_1), .val (.int (0 : Int32)), .val (.int (2 : Int32))] [(.int (2 : Int32)), (.int (2 : Int32))])) t
    refine XS.icmpYes X86.here hx rfl (pc0 := 31) (pc' := 84) rfl (hb hby dn_d31) rfl (flt (by decide)).2.1 (by decide) (by decide) ?_
    refine XS.aloadN X86.here hx rfl (hb hby dn_d84) rfl rfl ?_
    refine XS.iloadN X86.here hx rfl (hb hby dn_d85) rfl ?_
    show Steps p.tables e below (T86.setTop (mkF m 86 #[.val (.ref r0), .val (.ref r1), .val (.int v60_1), .val (.int (0 : Int32)), .val (.int (2 : Int32))] [(.int v60_1), (.ref r0)])) t
    refine st87 _ ?_
    refine XS.aloadN X87.here hx rfl (hb hby dn_d89) rfl rfl ?_
    refine XS.iloadN X87.here hx rfl (hb hby dn_d90) rfl ?_
    show Steps p.tables e below (T87.setTop (mkF m 91 #[.val (.ref r0), .val (.ref r1), .val (.int v60_1), .val (.int (0 : Int32)), .val (.int (2 : Int32))] [(.int (0 : Int32)), (.ref r0)])) t
    refine st103 _ ?_
    exact kt
  obtain ⟨fs, hr, hrun, hended, hW, hsame⟩ := X103.leave (v := none) (fun _ => rfl)
  refine ⟨_, _, ?_, hrun, hended, _, _, rfl, ?_, ⟨_, rfl⟩, hW, hsame.mono (by decide) (by decide)⟩
  · skip
    have q := K119 _ (X103.returnOut hx Bd.returns (hb hby dn_d94) hr)
    rw [hP0] at q; exact q
  · show QDn2 Z r0 d0 d1 h0 n0 _ T103.heap _
    rw [e103]
    subst hf11
    subst hf41
    subst hv60
    subst hf41_1
    subst hv60_1
    exact ⟨b11, rfl, N103, Kp103, sz_b11, F104, F105, F117⟩
def fB3 (d0 d1 d2 : Int32) : Nat → Int32 :=
  let f11 : Nat → Int32 := (fun _ => (0 : Int32))
  let f41 : Nat → Int32 := (upd f11 ((0 : Int32)).toNatClampNeg (0 : Int32))
  let v60 : Int32 := ((0 : Int32) + d0)
  let f41_1 : Nat → Int32 := (upd f41 ((1 : Int32)).toNatClampNeg v60)
  let v60_1 : Int32 := (v60 + d1)
  let f41_2 : Nat → Int32 := (upd f41_1 ((2 : Int32)).toNatClampNeg v60_1)
  let v60_2 : Int32 := (v60_1 + d2)
  f41_2
def QDn3 (Z : State) (r0 : Addr) (d0 d1 d2 : Int32) (h0 : Heap) (n0 : Nat) (v : Option Value) (h : Heap) (L : List Loc) : Prop := ∃ b : Addr, v = none ∧ Fr n0 L ∧ Keep h0 h [r0] ∧ h0.size ≤ b ∧ Exa Z h r0 "com/example/termwright/termwright/DocumentNumbers" ∧ Fld Z h r0 "com/example/termwright/termwright/DocumentNumbers" "bases" "[I" (.ref b) ∧ IA Z h b .int 3 (fB3 d0 d1 d2)
theorem dn3_pn : plainName "com/example/termwright/termwright/DocumentNumbers" = true := by first | (simp [plainName, overriddenIn]; done) | decide +kernel
theorem dn3_pd0 : parseMethodDescriptor "()I" = some ⟨[], some .int⟩ := by decide +kernel
theorem dn3_pd1 : parseMethodDescriptor "(I)Ljava/lang/Object;" = some ⟨[.int], some (.object "java/lang/Object")⟩ := by decide +kernel
theorem dn3_pd2 : parseMethodDescriptor "(II)I" = some ⟨[.int, .int], some .int⟩ := by decide +kernel
theorem dn3_ef (m : MethodId) (x0 : Addr) (x1 : Addr) : entryFrame m #[(.ref x0), (.ref x1)] 5 = mkF m 0 #[.val (.ref x0), .val (.ref x1), .unset, .unset, .unset] [] := by first | (simp [entryFrame, mkF, argsToLocals, Value.category]; done) | rfl
set_option maxRecDepth 65536 in
set_option maxHeartbeats 40000000 in
theorem rm_dn3 (l : Launch) (Z : State) (a0 : Array Value) (hw : ∀ d ∈ tables_1, d.before a0 Z = true) (ws : List Jvm.Cond) (r0 : Addr) (r1 : Addr) (u0 u1 u2 : Value) (ed x0 x1 x2 : Addr) (f : Nat → Value) (d0 d1 d2 : Int32) (h0 : Heap) (n0 : Nat) (Z0 : n0 ≤ h0.size) (H0 : Exa Z h0 r0 "com/example/termwright/termwright/DocumentNumbers") (H1 : Fld Z h0 r0 "com/example/termwright/termwright/DocumentNumbers" "bases" "[I" u0) (H2 : Fld Z h0 r0 "com/example/termwright/termwright/DocumentNumbers" "count" "I" u1) (H3 : Fld Z h0 r0 "com/example/termwright/termwright/DocumentNumbers" "deletedCount" "I" u2) (H4 : Exa Z h0 r1 "java/util/ArrayList") (H5 : Fld Z h0 r1 "java/util/ArrayList" "size" "I" (.int (3 : Int32))) (H6 : Fld Z h0 r1 "java/util/ArrayList" "elementData" "[Ljava/lang/Object;" (.ref ed)) (H7 : RA Z h0 ed 10 f) (H8 : Exa Z h0 x0 "com/example/termwright/termwright/Commit$Segment") (H9 : Fld Z h0 x0 "com/example/termwright/termwright/Commit$Segment" "documentCount" "I" (.int d0)) (H10 : Fld Z h0 x0 "com/example/termwright/termwright/Commit$Segment" "deletions" "Lcom/example/termwright/termwright/Commit$DeletionsFile;" .null) (H11 : Exa Z h0 x1 "com/example/termwright/termwright/Commit$Segment") (H12 : Fld Z h0 x1 "com/example/termwright/termwright/Commit$Segment" "documentCount" "I" (.int d1)) (H13 : Fld Z h0 x1 "com/example/termwright/termwright/Commit$Segment" "deletions" "Lcom/example/termwright/termwright/Commit$DeletionsFile;" .null) (H14 : Exa Z h0 x2 "com/example/termwright/termwright/Commit$Segment") (H15 : Fld Z h0 x2 "com/example/termwright/termwright/Commit$Segment" "documentCount" "I" (.int d2)) (H16 : Fld Z h0 x2 "com/example/termwright/termwright/Commit$Segment" "deletions" "Lcom/example/termwright/termwright/Commit$DeletionsFile;" .null) (g_r0 : n0 ≤ r0) (n_r0_r1 : r0 ≠ r1) (n_r0_ed : r0 ≠ ed) (n_r0_x0 : r0 ≠ x0) (n_r0_x1 : r0 ≠ x1) (n_r0_x2 : r0 ≠ x2) (hf0 : f 0 = .ref x0) (hf1 : f 1 = .ref x1) (hf2 : f 2 = .ref x2) (hs0 : NO (0 : Int32) d0) (hs1 : NO ((0 : Int32) + d0) d1) (hs2 : NO (((0 : Int32) + d0) + d1) d2) :
    MetFree l (⟨"com/example/termwright/termwright/DocumentNumbers", "<init>", "(Ljava/util/List;)V"⟩ : MethodName) (head1 (Jvm.Cond.code (⟨"com/example/termwright/termwright/DocumentNumbers", "<init>", "(Ljava/util/List;)V"⟩ : MethodName) prog_33_method_1_code 5 none :: ws) ({ frames := 3, cells := 1, slots := 3, locals := 41 } : Room)) (fun a U => a = #[(.ref r0), (.ref r1)] ∧ Z.Warmed39 U.vm ∧ U.heap = h0) (fun _ _ _ _ _ => True) (fun _ U o U' => ∃ v L, o = .returned v ∧ QDn3 Z r0 d0 d1 d2 h0 n0 v U'.heap L ∧ FrameEnd U o U' L ({ frames := 3, cells := 1, slots := 3, locals := 41 } : Room).cells ({ frames := 3, cells := 1, slots := 3, locals := 41 } : Room).slots) := by
  refine MetFree.of_bodySF (plainFor_of_name dn3_pn) hisR ?_
  intro p e s m args below meth c s₁ Bd hml0 hP hK
  obtain ⟨rfl, hZ, hh⟩ := hP
  have hx := Bd.exec
  have hby := Bd.bytes
  have hml : c.maxLocals = 5 := hml0
  have hown : s.vm.findClass "com/example/termwright/termwright/DocumentNumbers" = some m.cls := findClass_of_methodNamed Bd.named
  have hnm := (name_of_methodNamed Bd.named Bd.method).1
  have X0 : Stand p l e ({ frames := 3, cells := 1, slots := 3, locals := 41 } : Room) s m #[(.ref r0), (.ref r1)] below meth c s₁ [] 0 0 := Stand.of_body Bd
  have e0 : s₁.heap = h0 := by rw [← hh, Bd.state]; rfl
  have N0 := Fr.nil n0
  obtain ⟨P0, hP0⟩ : ∃ P0 : State → Prop, P0 = fun t => Steps p.tables e below (s₁.setTop (entryFrame m #[(.ref r0), (.ref r1)] 5)) t := ⟨_, rfl⟩
  have K0 : ∀ t, Steps p.tables e below (s₁.setTop (mkF m 0 #[.val (.ref r0), .val (.ref r1), .unset, .unset, .unset] [])) t → P0 t := by
    intro t k; rw [hP0]; exact castTop (dn3_ef m r0 r1) k
  obtain ⟨T1, X1, e1, st1⟩ := initO X0 hx hZ hown (hw _ (gw 33 rfl)) (hw _ (gw 20 rfl)) (hw _ (gw 21 rfl)) e0 (g := (mkF m 1 #[.val (.ref r0), .val (.ref r1), .unset, .unset, .unset] [(.ref r0)])) rfl (by rw [hml]; rfl) rfl (hb hby dn_d1) (by decide) (W := 0) (by show 2 * 0 + _ ≤ _; exact Nat.le_of_eq rfl) (by decide)
  obtain ⟨cq2, kq2, q2a, q2b, q2c⟩ := isOf hZ e1 H4
  obtain ⟨_, _, ⟨T2, L2, k2, n2⟩, -, X2, ⟨Lc2, hQ2, l2, y2, z2⟩, st2⟩ := X1.interfaceBack hx (xi := (⟨"java/util/List", "size", "()I"⟩ : MethodName)) (y := (⟨"java/util/ArrayList", "size", "()I"⟩ : MethodName)) hown (mvT hZ (hw _ (gw 34 rfl))) (mvT hZ (hw _ (gw 35 rfl))) (mvT hZ (hw _ (gw 36 rfl))) (mvT hZ (hw _ (gw 37 rfl))) (mvT hZ (hw _ (gw 38 rfl))) (mvT hZ (hw _ (gw 39 rfl))) (mvT hZ (hw _ (gw 40 rfl))) (mvT hZ (hw _ (gw 41 rfl))) (by decide) (backOf (W := 1) (rm_siz l Z a0 hw [] r1 (3 : Int32) h0 n0 Z0 H5) hZ (hw _ (gw 42 rfl)) (hw _ (gw 3 rfl)) (by decide) (by decide)) q2a q2b q2c (g := (mkF m 6 #[.val (.ref r0), .val (.ref r1), .unset, .unset, .unset] [(.ref r1), (.ref r0)])) rfl (by rw [hml]; rfl) (Steps.refl _) (argsL := []) (rest := [(.ref r0)]) (lenOf dn3_pd0 rfl) rfl (by show 2 * 0 + _ ≤ _; exact Nat.le_of_eq rfl) (hb hby dn_d6) (fun _ _ => ⟨rfl, e1, (by decide : 0 + 0 ≤ _), (by decide : 0 + 0 ≤ _)⟩)
  dsimp only [Pt.U, Pt.locs, Pt.cells, Pt.slots] at X2 l2 y2 z2 st2 hQ2
  rw [l2, y2, z2] at X2
  obtain ⟨rfl, N2q, e2⟩ := hQ2
  have N2 := Fr.app N0 N2q
  obtain ⟨T3, h3, k3, X3, e3, E3, A3, st3⟩ := newP X2 hx hZ (hw _ (gw 45 rfl)) e2 (g := (mkF m 11 #[.val (.ref r0), .val (.ref r1), .unset, .unset, .unset] [(.int (3 : Int32)), (.ref r0)])) rfl (hb hby dn_d11) rfl (by decide) (cap := 3) (by decide) (by decide) (by decide) (by decide)
  obtain ⟨b11, g3⟩ : ∃ z, z = h0.size := ⟨_, rfl⟩
  have g_b11 : n0 ≤ b11 := Nat.le_trans Z0 (Nat.le_of_eq g3.symm)
  have ne_r0_b11 : r0 ≠ b11 := Nat.ne_of_lt (Nat.lt_of_lt_of_le H0.lt (Nat.le_of_eq g3.symm))
  have ne_r1_b11 : r1 ≠ b11 := Nat.ne_of_lt (Nat.lt_of_lt_of_le H4.lt (Nat.le_of_eq g3.symm))
  have ne_ed_b11 : ed ≠ b11 := Nat.ne_of_lt (Nat.lt_of_lt_of_le H7.lt (Nat.le_of_eq g3.symm))
  have ne_x0_b11 : x0 ≠ b11 := Nat.ne_of_lt (Nat.lt_of_lt_of_le H8.lt (Nat.le_of_eq g3.symm))
  have ne_x1_b11 : x1 ≠ b11 := Nat.ne_of_lt (Nat.lt_of_lt_of_le H11.lt (Nat.le_of_eq g3.symm))
  have ne_x2_b11 : x2 ≠ b11 := Nat.ne_of_lt (Nat.lt_of_lt_of_le H14.lt (Nat.le_of_eq g3.symm))
  rw [← g3] at A3 st3
  have sz_b11 : h0.size ≤ b11 := Nat.le_trans (Keep.refl h0 [r0]).1 (Nat.le_of_eq g3.symm)
  have Z3 : n0 ≤ h3.size := Nat.le_trans Z0 E3.1
  have F4 := Exa.ext E3 H0
  have F5 := Fld.ext E3 H1
  have F6 := Fld.ext E3 H2
  have F7 := Fld.ext E3 H3
  have F8 := Exa.ext E3 H4
  have F9 := Fld.ext E3 H5
  have F10 := Fld.ext E3 H6
  have F11 := H7.ext E3
  have F12 := Exa.ext E3 H8
  have F13 := Fld.ext E3 H9
  have F14 := Fld.ext E3 H10
  have F15 := Exa.ext E3 H11
  have F16 := Fld.ext E3 H12
  have F17 := Fld.ext E3 H13
  have F18 := Exa.ext E3 H14
  have F19 := Fld.ext E3 H15
  have F20 := Fld.ext E3 H16
  obtain ⟨f11, hf11, V3⟩ : ∃ f11 : Nat → Int32, f11 = (fun _ => 0) ∧ IA Z h3 b11 .int 3 f11 := ⟨_, rfl, IA.new A3 rfl rfl (by decide)⟩
  have Kp3 : Keep h0 h3 [r0] := (Keep.refl h0 [r0]).ext E3
  obtain ⟨T21, h21, X21, e21, W21, st21⟩ := putF X3 hx hZ hown (host := "") (Or.inl (hw _ (gw 46 rfl))) Via.refl e3 F5 F4 (Or.inr ⟨(hw _ (gw 47 rfl)), rfl, hnm⟩) (hw _ (gw 28 rfl)) (ty := (.array .int)) (by decide) rfl rfl (g := (mkF m 13 #[.val (.ref r0), .val (.ref r1), .unset, .unset, .unset] [(.ref b11), (.ref r0)])) rfl rfl (hb hby dn_d13)
  have Z21 : n0 ≤ h21.size := Nat.le_trans Z3 (Keep.of_wr W21).1
  have N21 := Fr.snoc X21 N2 g_r0
  have F22 := Exa.wr W21 F4
  have F23 := Fld.other W21 F6 (Or.inr (slot_ne (Or.inr (hw _ (gw 49 rfl))) (Or.inr (hw _ (gw 47 rfl))) (by decide) (t := .int) (t' := (.array .int)) (by decide) (by decide)))
  have F24 := Fld.other W21 F7 (Or.inr (slot_ne (Or.inr (hw _ (gw 51 rfl))) (Or.inr (hw _ (gw 47 rfl))) (by decide) (t := .int) (t' := (.array .int)) (by decide) (by decide)))
  have F25 := Exa.wr W21 F8
  have F26 := Fld.other W21 F9 (Or.inl (Ne.symm n_r0_r1))
  have F27 := Fld.other W21 F10 (Or.inl (Ne.symm n_r0_r1))
  have F28 := F11.other W21 (Ne.symm n_r0_ed)
  have F29 := Exa.wr W21 F12
  have F30 := Fld.other W21 F13 (Or.inl (Ne.symm n_r0_x0))
  have F31 := Fld.other W21 F14 (Or.inl (Ne.symm n_r0_x0))
  have F32 := Exa.wr W21 F15
  have F33 := Fld.other W21 F16 (Or.inl (Ne.symm n_r0_x1))
  have F34 := Fld.other W21 F17 (Or.inl (Ne.symm n_r0_x1))
  have F35 := Exa.wr W21 F18
  have F36 := Fld.other W21 F19 (Or.inl (Ne.symm n_r0_x2))
  have F37 := Fld.other W21 F20 (Or.inl (Ne.symm n_r0_x2))
  have F38 := V3.other W21 (Ne.symm ne_r0_b11)
  have Kp21 : Keep h0 h21 [r0] := Kp3.wr W21 (Or.inl (List.mem_of_getElem? (i := 0) rfl))
  have F39 : Fld Z h21 r0 "com/example/termwright/termwright/DocumentNumbers" "bases" "[I" (.ref b11) := Fld.same W21 F5
  obtain ⟨cq40, kq40, q40a, q40b, q40c⟩ := isOf hZ e21 F25
  obtain ⟨_, _, ⟨T40, L40, k40, n40⟩, -, X40, ⟨Lc40, hQ40, l40, y40, z40⟩, st40⟩ := X21.interfaceBack hx (xi := (⟨"java/util/List", "size", "()I"⟩ : MethodName)) (y := (⟨"java/util/ArrayList", "size", "()I"⟩ : MethodName)) hown (mvT hZ (hw _ (gw 34 rfl))) (mvT hZ (hw _ (gw 35 rfl))) (mvT hZ (hw _ (gw 36 rfl))) (mvT hZ (hw _ (gw 37 rfl))) (mvT hZ (hw _ (gw 38 rfl))) (mvT hZ (hw _ (gw 39 rfl))) (mvT hZ (hw _ (gw 40 rfl))) (mvT hZ (hw _ (gw 41 rfl))) (by decide) (backOf (W := 1) (rm_siz l Z a0 hw [] r1 (3 : Int32) h21 n0 Z21 F26) hZ (hw _ (gw 42 rfl)) (hw _ (gw 3 rfl)) (by decide) (by decide)) q40a q40b q40c (g := (mkF m 26 #[.val (.ref r0), .val (.ref r1), .val (.int (0 : Int32)), .val (.int (0 : Int32)), .val (.int (0 : Int32))] [(.ref r1), (.int (0 : Int32))])) rfl (by rw [hml]; rfl) (Steps.refl _) (argsL := []) (rest := [(.int (0 : Int32))]) (lenOf dn3_pd0 rfl) rfl (by show 2 * 0 + _ ≤ _; exact Nat.le_of_eq rfl) (hb hby dn_d26) (fun _ _ => ⟨rfl, e21, (by decide : 1 + 0 ≤ _), (by decide : 3 + 0 ≤ _)⟩)
  dsimp only [Pt.U, Pt.locs, Pt.cells, Pt.slots] at X40 l40 y40 z40 st40 hQ40
  rw [l40, y40, z40] at X40
  obtain ⟨rfl, N40q, e40⟩ := hQ40
  have N40 := Fr.app N21 N40q
  obtain ⟨T41, X41, e41, st41⟩ := getF X40 hx hZ hown (host := "") (Or.inl (hw _ (gw 46 rfl))) Via.refl e40 F39 (g := (mkF m 35 #[.val (.ref r0), .val (.ref r1), .val (.int (0 : Int32)), .val (.int (0 : Int32)), .val (.int (0 : Int32))] [(.ref r0)])) rfl rfl (hb hby dn_d35)
  obtain ⟨T42, h42, X42, e42, ⟨sl42, vv42, W42⟩, V42, st42⟩ := stIA X41 hx hZ e41 F38 (j := (0 : Int32)) (x := (0 : Int32)) (by decide) (g := (mkF m 41 #[.val (.ref r0), .val (.ref r1), .val (.int (0 : Int32)), .val (.int (0 : Int32)), .val (.int (0 : Int32))] [(.int (0 : Int32)), (.int (0 : Int32)), (.ref b11)])) rfl rfl (hb hby dn_d41)
  have Z42 : n0 ≤ h42.size := Nat.le_trans Z21 (Keep.of_wr W42).1
  have N42 := Fr.snoc X42 N40 g_b11
  have F43 := Exa.wr W42 F22
  have F44 := Fld.other W42 F39 (Or.inl ne_r0_b11)
  have F45 := Fld.other W42 F23 (Or.inl ne_r0_b11)
  have F46 := Fld.other W42 F24 (Or.inl ne_r0_b11)
  have F47 := Exa.wr W42 F25
  have F48 := Fld.other W42 F26 (Or.inl ne_r1_b11)
  have F49 := Fld.other W42 F27 (Or.inl ne_r1_b11)
  have F50 := F28.other W42 ne_ed_b11
  have F51 := Exa.wr W42 F29
  have F52 := Fld.other W42 F30 (Or.inl ne_x0_b11)
  have F53 := Fld.other W42 F31 (Or.inl ne_x0_b11)
  have F54 := Exa.wr W42 F32
  have F55 := Fld.other W42 F33 (Or.inl ne_x1_b11)
  have F56 := Fld.other W42 F34 (Or.inl ne_x1_b11)
  have F57 := Exa.wr W42 F35
  have F58 := Fld.other W42 F36 (Or.inl ne_x2_b11)
  have F59 := Fld.other W42 F37 (Or.inl ne_x2_b11)
  have Kp42 : Keep h0 h42 [r0] := Kp21.wr W42 (Or.inr sz_b11)
  obtain ⟨f41, hf41, V42'⟩ : ∃ f41 : Nat → Int32, f41 = (upd f11 ((0 : Int32)).toNatClampNeg (0 : Int32)) ∧ IA Z h42 b11 .int 3 f41 := ⟨_, rfl, V42⟩
  obtain ⟨cq60, kq60, q60a, q60b, q60c⟩ := isOf hZ e42 F47
  obtain ⟨_, _, ⟨T60, L60, k60, n60⟩, -, X60, ⟨Lc60, hQ60, l60, y60, z60⟩, st60⟩ := X42.interfaceBack hx (xi := (⟨"java/util/List", "get", "(I)Ljava/lang/Object;"⟩ : MethodName)) (y := (⟨"java/util/ArrayList", "get", "(I)Ljava/lang/Object;"⟩ : MethodName)) hown (mvT hZ (hw _ (gw 119 rfl))) (mvT hZ (hw _ (gw 120 rfl))) (mvT hZ (hw _ (gw 121 rfl))) (mvT hZ (hw _ (gw 122 rfl))) (mvT hZ (hw _ (gw 123 rfl))) (mvT hZ (hw _ (gw 124 rfl))) (mvT hZ (hw _ (gw 125 rfl))) (mvT hZ (hw _ (gw 41 rfl))) (by decide) (backOf (W := 1) (rm_get l Z a0 hw [] r1 (0 : Int32) (3 : Int32) ed x0 f h42 n0 Z42 F47 F49 F50 F48 (by decide) hf0 (by decide) (by decide)) hZ (hw _ (gw 126 rfl)) (hw _ (gw 3 rfl)) (by decide) (by decide)) q60a q60b q60c (g := (mkF m 46 #[.val (.ref r0), .val (.ref r1), .val (.int (0 : Int32)), .val (.int (0 : Int32)), .val (.int (0 : Int32))] [(.int (0 : Int32)), (.ref r1), (.int (0 : Int32))])) rfl (by rw [hml]; rfl) (Steps.refl _) (argsL := [(.int (0 : Int32))]) (rest := [(.int (0 : Int32))]) (lenOf dn3_pd1 rfl) rfl (by show 2 * 0 + _ ≤ _; exact Nat.le_of_eq rfl) (hb hby dn_d46) (fun _ _ => ⟨rfl, e42, (by decide : 1 + 0 ≤ _), (by decide : 3 + 0 ≤ _)⟩)
  dsimp only [Pt.U, Pt.locs, Pt.cells, Pt.slots] at X60 l60 y60 z60 st60 hQ60
  rw [l60, y60, z60] at X60
  obtain ⟨rfl, N60q, e60⟩ := hQ60
  have N60 := Fr.app N42 N60q
  obtain ⟨T61, X61, e61, st61⟩ := castY X60 hx hZ hown (hw _ (gw 140 rfl)) e60 (Ins.self F51) (g := (mkF m 51 #[.val (.ref r0), .val (.ref r1), .val (.int (0 : Int32)), .val (.int (0 : Int32)), .val (.int (0 : Int32))] [(.ref x0), (.int (0 : Int32))])) rfl rfl (hb hby dn_d51)
  obtain ⟨cq62, kq62, q62a, q62b, q62c⟩ := isOf hZ e61 F51
  obtain ⟨_, _, ⟨T62, L62, k62, n62⟩, -, X62, ⟨Lc62, hQ62, l62, y62, z62⟩, st62⟩ := X61.virtualBack hx (y := (⟨"com/example/termwright/termwright/Commit$Segment", "documentCount", "()I"⟩ : MethodName)) (z := (⟨"com/example/termwright/termwright/Commit$Segment", "documentCount", "()I"⟩ : MethodName)) hown (mvT hZ (hw _ (gw 142 rfl))) (mvT hZ (hw _ (gw 143 rfl))) (notFace_of_selects (args := #[]) (mvT hZ (hw _ (gw 145 rfl)))) (mvT hZ (hw _ (gw 145 rfl))) (mvT hZ (hw _ (gw 144 rfl))) (by decide) (backOf (W := 1) (rm_dcn l Z a0 hw [] x0 d0 h42 n0 Z42 F52) hZ (hw _ (gw 146 rfl)) (hw _ (gw 59 rfl)) (by decide) (by decide)) q62a q62c (g := (mkF m 54 #[.val (.ref r0), .val (.ref r1), .val (.int (0 : Int32)), .val (.int (0 : Int32)), .val (.int (0 : Int32))] [(.ref x0), (.int (0 : Int32))])) rfl (by rw [hml]; rfl) (Steps.refl _) (argsL := []) (rest := [(.int (0 : Int32))]) (lenOf dn3_pd0 rfl) rfl (by show 2 * 0 + _ ≤ _; exact Nat.le_of_eq rfl) (hb hby dn_d54) (fun _ _ => ⟨rfl, e61, (by decide : 1 + 0 ≤ _), (by decide : 3 + 0 ≤ _)⟩)
  dsimp only [Pt.U, Pt.locs, Pt.cells, Pt.slots] at X62 l62 y62 z62 st62 hQ62
  rw [l62, y62, z62] at X62
  obtain ⟨rfl, N62q, e62⟩ := hQ62
  have N62 := Fr.app N60 N62q
  obtain ⟨_, _, ⟨T63, L63, k63, n63⟩, -, X63, ⟨Lc63, hQ63, l63, y63, z63⟩, st63⟩ := Jvm.LawKit.callS X62 hx (y := (⟨"java/lang/Math", "addExact", "(II)I"⟩ : MethodName)) hown (mvT hZ (hw _ (gw 147 rfl))) (mvT hZ (hw _ (gw 148 rfl))) (mvT hZ (hw _ (gw 114 rfl))) (mvT hZ (hw _ (gw 149 rfl))) (by decide) (backOf (W := 0) (rm_adx l Z a0 hw [] (0 : Int32) d0 h42 n0 Z42 hs0) hZ (hw _ (gw 149 rfl)) (hw _ (gw 114 rfl)) (by decide) (by decide)) (g := (mkF m 57 #[.val (.ref r0), .val (.ref r1), .val (.int (0 : Int32)), .val (.int (0 : Int32)), .val (.int (0 : Int32))] [(.int d0), (.int (0 : Int32))])) rfl (by rw [hml]; rfl) (argsL := [(.int (0 : Int32)), (.int d0)]) (rest := []) (lenOf dn3_pd2 rfl) rfl (by show 2 * 0 + _ ≤ _; exact Nat.le_of_eq rfl) (hb hby dn_d57) (fun _ _ => ⟨rfl, e62, (by decide : 1 + 0 ≤ _), (by decide : 3 + 0 ≤ _)⟩)
  dsimp only [Pt.U, Pt.locs, Pt.cells, Pt.slots] at X63 l63 y63 z63 st63 hQ63
  rw [l63, y63, z63] at X63
  obtain ⟨rfl, N63q, e63⟩ := hQ63
  have N63 := Fr.app N62 N63q
  have K64 : ∀ t, Steps p.tables e below (T63.setTop (mkF m 61 #[.val (.ref r0), .val (.ref r1), .val (.int ((0 : Int32) + d0)), .val (.int (0 : Int32)), .val (.int (0 : Int32))] [])) t → P0 t := by
    intro t kt
    refine K0 t ?_
    refine XS.aloadN X0.here hx rfl (hb hby dn_d0) rfl rfl ?_
    show Steps p.tables e below (s₁.setTop (mkF m 1 #[.val (.ref r0), .val (.ref r1), .unset, .unset, .unset] [(.ref r0)])) t
    refine st1 _ ?_
    refine XS.aloadN X1.here hx rfl (hb hby dn_d4) rfl rfl ?_
    refine XS.aloadN X1.here hx rfl (hb hby dn_d5) rfl rfl ?_
    show Steps p.tables e below (T1.setTop (mkF m 6 #[.val (.ref r0), .val (.ref r1), .unset, .unset, .unset] [(.ref r1), (.ref r0)])) t
    refine st2.trans ?_
    show Steps p.tables e below (T2.setTop (mkF m 11 #[.val (.ref r0), .val (.ref r1), .unset, .unset, .unset] [(.int (3 : Int32)), (.ref r0)])) t
    refine st3 _ ?_
    show Steps p.tables e below (T3.setTop (mkF m 13 #[.val (.ref r0), .val (.ref r1), .unset, .unset, .unset] [(.ref b11), (.ref r0)])) t
    refine st21 _ ?_
    refine XS.iconst X21.here hx rfl (hb hby dn_d16) ?_
    show Steps p.tables e below (T21.setTop (mkF m 17 #[.val (.ref r0), .val (.ref r1), .unset, .unset, .unset] [(.int (0 : Int32))])) t
    refine XS.istoreN X21.here hx rfl (hb hby dn_d17) rfl (l' := #[.val (.ref r0), .val (.ref r1), .val (.int (0 : Int32)), .unset, .unset]) rfl ?_
    refine XS.iconst X21.here hx rfl (hb hby dn_d18) ?_
    show Steps p.tables e below (T21.setTop (mkF m 19 #[.val (.ref r0), .val (.ref r1), .val (.int (0 : Int32)), .unset, .unset] [(.int (0 : Int32))])) t
    refine XS.istoreN X21.here hx rfl (hb hby dn_d19) rfl (l' := #[.val (.ref r0), .val (.ref r1), .val (.int (0 : Int32)), .val (.int (0 : Int32)), .unset]) rfl ?_
    refine XS.iconst X21.here hx rfl (hb hby dn_d20) ?_
    show Steps p.tables e below (T21.setTop (mkF m 21 #[.val (.ref r0), .val (.ref r1), .val (.int (0 : Int32)), .val (.int (0 : Int32)), .unset] [(.int (0 : Int32))])) t
    refine XS.istore X21.here hx rfl (hb hby dn_d21) rfl (l' := #[.val (.ref r0), .val (.ref r1), .val (.int (0 : Int32)), .val (.int (0 : Int32)), .val (.int (0 : Int32))]) rfl ?_
    refine XS.iload X21.here hx rfl (hb hby dn_d23) rfl ?_
    refine XS.aloadN X21.here hx rfl (hb hby dn_d25) rfl rfl ?_
    show Steps p.tables e below (T21.setTop (mkF m 26 #[.val (.ref r0), .val (.ref r1), .val (.int (0 : Int32)), .val (.int (0 : Int32)), .val (.int (0 : Int32))] [(.ref r1), (.int (0 : Int32))])) t
    refine st40.trans ?_
    show Steps p.tables e below (T40.setTop (mkF m 31 #[.val (.ref r0), .val (.ref r1), .val (.int (0 : Int32)), .val (.int (0 : Int32)), .val (.int (0 : Int32))] [(.int (3 : Int32)), (.int (0 : Int32))])) t
    refine XS.icmpNo X40.here hx rfl (hb hby dn_d31) rfl (tlt (by decide)).2.1 ?_
    refine XS.aloadN X40.here hx rfl (hb hby dn_d34) rfl rfl ?_
    show Steps p.tables e below (T40.setTop (mkF m 35 #[.val (.ref r0), .val (.ref r1), .val (.int (0 : Int32)), .val (.int (0 : Int32)), .val (.int (0 : Int32))] [(.ref r0)])) t
    refine st41 _ ?_
    refine XS.iload X41.here hx rfl (hb hby dn_d38) rfl ?_
    refine XS.iloadN X41.here hx rfl (hb hby dn_d40) rfl ?_
    show Steps p.tables e below (T41.setTop (mkF m 41 #[.val (.ref r0), .val (.ref r1), .val (.int (0 : Int32)), .val (.int (0 : Int32)), .val (.int (0 : Int32))] [(.int (0 : Int32)), (.int (0 : Int32)), (.ref b11)])) t
    refine st42 _ ?_
    refine XS.iloadN X42.here hx rfl (hb hby dn_d42) rfl ?_
    refine XS.aloadN X42.here hx rfl (hb hby dn_d43) rfl rfl ?_
    refine XS.iload X42.here hx rfl (hb hby dn_d44) rfl ?_
    show Steps p.tables e below (T42.setTop (mkF m 46 #[.val (.ref r0), .val (.ref r1), .val (.int (0 : Int32)), .val (.int (0 : Int32)), .val (.int (0 : Int32))] [(.int (0 : Int32)), (.ref r1), (.int (0 : Int32))])) t
    refine st60.trans ?_
    show Steps p.tables e below (T60.setTop (mkF m 51 #[.val (.ref r0), .val (.ref r1), .val (.int (0 : Int32)), .val (.int (0 : Int32)), .val (.int (0 : Int32))] [(.ref x0), (.int (0 : Int32))])) t
    refine st61 _ ?_
    show Steps p.tables e below (T61.setTop (mkF m 54 #[.val (.ref r0), .val (.ref r1), .val (.int (0 : Int32)), .val (.int (0 : Int32)), .val (.int (0 : Int32))] [(.ref x0), (.int (0 : Int32))])) t
    refine st62.trans ?_
    show Steps p.tables e below (T62.setTop (mkF m 57 #[.val (.ref r0), .val (.ref r1), .val (.int (0 : Int32)), .val (.int (0 : Int32)), .val (.int (0 : Int32))] [(.int d0), (.int (0 : Int32))])) t
    refine st63 _ ?_
    show Steps p.tables e below (T63.setTop (mkF m 60 #[.val (.ref r0), .val (.ref r1), .val (.int (0 : Int32)), .val (.int (0 : Int32)), .val (.int (0 : Int32))] [(.int ((0 : Int32) + d0))])) t
    refine XS.istoreN X63.here hx rfl (hb hby dn_d60) rfl (l' := #[.val (.ref r0), .val (.ref r1), .val (.int ((0 : Int32) + d0)), .val (.int (0 : Int32)), .val (.int (0 : Int32))]) rfl ?_
    exact kt
  obtain ⟨v60, hv60, K65⟩ : ∃ v60 : Int32, v60 = ((0 : Int32) + d0) ∧ ∀ t, Steps p.tables e below (T63.setTop (mkF m 61 #[.val (.ref r0), .val (.ref r1), .val (.int v60), .val (.int (0 : Int32)), .val (.int (0 : Int32))] [])) t → P0 t := ⟨_, rfl, K64⟩
  obtain ⟨cq66, kq66, q66a, q66b, q66c⟩ := isOf hZ e63 F47
  obtain ⟨_, _, ⟨T66, L66, k66, n66⟩, -, X66, ⟨Lc66, hQ66, l66, y66, z66⟩, st66⟩ := X63.interfaceBack hx (xi := (⟨"java/util/List", "get", "(I)Ljava/lang/Object;"⟩ : MethodName)) (y := (⟨"java/util/ArrayList", "get", "(I)Ljava/lang/Object;"⟩ : MethodName)) hown (mvT hZ (hw _ (gw 119 rfl))) (mvT hZ (hw _ (gw 120 rfl))) (mvT hZ (hw _ (gw 121 rfl))) (mvT hZ (hw _ (gw 122 rfl))) (mvT hZ (hw _ (gw 123 rfl))) (mvT hZ (hw _ (gw 124 rfl))) (mvT hZ (hw _ (gw 125 rfl))) (mvT hZ (hw _ (gw 41 rfl))) (by decide) (backOf (W := 1) (rm_get l Z a0 hw [] r1 (0 : Int32) (3 : Int32) ed x0 f h42 n0 Z42 F47 F49 F50 F48 (by decide) hf0 (by decide) (by decide)) hZ (hw _ (gw 126 rfl)) (hw _ (gw 3 rfl)) (by decide) (by decide)) q66a q66b q66c (g := (mkF m 65 #[.val (.ref r0), .val (.ref r1), .val (.int v60), .val (.int (0 : Int32)), .val (.int (0 : Int32))] [(.int (0 : Int32)), (.ref r1), (.int (0 : Int32))])) rfl (by rw [hml]; rfl) (Steps.refl _) (argsL := [(.int (0 : Int32))]) (rest := [(.int (0 : Int32))]) (lenOf dn3_pd1 rfl) rfl (by show 2 * 0 + _ ≤ _; exact Nat.le_of_eq rfl) (hb hby dn_d65) (fun _ _ => ⟨rfl, e63, (by decide : 1 + 0 ≤ _), (by decide : 3 + 0 ≤ _)⟩)
  dsimp only [Pt.U, Pt.locs, Pt.cells, Pt.slots] at X66 l66 y66 z66 st66 hQ66
  rw [l66, y66, z66] at X66
  obtain ⟨rfl, N66q, e66⟩ := hQ66
  have N66 := Fr.app N63 N66q
  obtain ⟨T67, X67, e67, st67⟩ := castY X66 hx hZ hown (hw _ (gw 140 rfl)) e66 (Ins.self F51) (g := (mkF m 70 #[.val (.ref r0), .val (.ref r1), .val (.int v60), .val (.int (0 : Int32)), .val (.int (0 : Int32))] [(.ref x0), (.int (0 : Int32))])) rfl rfl (hb hby dn_d70)
  obtain ⟨cq68, kq68, q68a, q68b, q68c⟩ := isOf hZ e67 F51
  obtain ⟨_, _, ⟨T68, L68, k68, n68⟩, -, X68, ⟨Lc68, hQ68, l68, y68, z68⟩, st68⟩ := X67.virtualBack hx (y := (⟨"com/example/termwright/termwright/Commit$Segment", "deletedCount", "()I"⟩ : MethodName)) (z := (⟨"com/example/termwright/termwright/Commit$Segment", "deletedCount", "()I"⟩ : MethodName)) hown (mvT hZ (hw _ (gw 150 rfl))) (mvT hZ (hw _ (gw 151 rfl))) (notFace_of_selects (args := #[]) (mvT hZ (hw _ (gw 153 rfl)))) (mvT hZ (hw _ (gw 153 rfl))) (mvT hZ (hw _ (gw 152 rfl))) (by decide) (backOf (W := 1) (rm_dlc l Z a0 hw [] x0 h42 n0 Z42 F53) hZ (hw _ (gw 154 rfl)) (hw _ (gw 59 rfl)) (by decide) (by decide)) q68a q68c (g := (mkF m 73 #[.val (.ref r0), .val (.ref r1), .val (.int v60), .val (.int (0 : Int32)), .val (.int (0 : Int32))] [(.ref x0), (.int (0 : Int32))])) rfl (by rw [hml]; rfl) (Steps.refl _) (argsL := []) (rest := [(.int (0 : Int32))]) (lenOf dn3_pd0 rfl) rfl (by show 2 * 0 + _ ≤ _; exact Nat.le_of_eq rfl) (hb hby dn_d73) (fun _ _ => ⟨rfl, e67, (by decide : 1 + 0 ≤ _), (by decide : 3 + 0 ≤ _)⟩)
  dsimp only [Pt.U, Pt.locs, Pt.cells, Pt.slots] at X68 l68 y68 z68 st68 hQ68
  rw [l68, y68, z68] at X68
  obtain ⟨rfl, N68q, e68⟩ := hQ68
  have N68 := Fr.app N66 N68q
  obtain ⟨cq69, kq69, q69a, q69b, q69c⟩ := isOf hZ e68 F47
  obtain ⟨_, _, ⟨T69, L69, k69, n69⟩, -, X69, ⟨Lc69, hQ69, l69, y69, z69⟩, st69⟩ := X68.interfaceBack hx (xi := (⟨"java/util/List", "size", "()I"⟩ : MethodName)) (y := (⟨"java/util/ArrayList", "size", "()I"⟩ : MethodName)) hown (mvT hZ (hw _ (gw 34 rfl))) (mvT hZ (hw _ (gw 35 rfl))) (mvT hZ (hw _ (gw 36 rfl))) (mvT hZ (hw _ (gw 37 rfl))) (mvT hZ (hw _ (gw 38 rfl))) (mvT hZ (hw _ (gw 39 rfl))) (mvT hZ (hw _ (gw 40 rfl))) (mvT hZ (hw _ (gw 41 rfl))) (by decide) (backOf (W := 1) (rm_siz l Z a0 hw [] r1 (3 : Int32) h42 n0 Z42 F48) hZ (hw _ (gw 42 rfl)) (hw _ (gw 3 rfl)) (by decide) (by decide)) q69a q69b q69c (g := (mkF m 26 #[.val (.ref r0), .val (.ref r1), .val (.int v60), .val (.int (0 : Int32)), .val (.int (1 : Int32))] [(.ref r1), (.int (1 : Int32))])) rfl (by rw [hml]; rfl) (Steps.refl _) (argsL := []) (rest := [(.int (1 : Int32))]) (lenOf dn3_pd0 rfl) rfl (by show 2 * 0 + _ ≤ _; exact Nat.le_of_eq rfl) (hb hby dn_d26) (fun _ _ => ⟨rfl, e68, (by decide : 1 + 0 ≤ _), (by decide : 3 + 0 ≤ _)⟩)
  dsimp only [Pt.U, Pt.locs, Pt.cells, Pt.slots] at X69 l69 y69 z69 st69 hQ69
  rw [l69, y69, z69] at X69
  obtain ⟨rfl, N69q, e69⟩ := hQ69
  have N69 := Fr.app N68 N69q
  obtain ⟨T70, X70, e70, st70⟩ := getF X69 hx hZ hown (host := "") (Or.inl (hw _ (gw 46 rfl))) Via.refl e69 F44 (g := (mkF m 35 #[.val (.ref r0), .val (.ref r1), .val (.int v60), .val (.int (0 : Int32)), .val (.int (1 : Int32))] [(.ref r0)])) rfl rfl (hb hby dn_d35)
  obtain ⟨T71, h71, X71, e71, ⟨sl71, vv71, W71⟩, V71, st71⟩ := stIA X70 hx hZ e70 V42' (j := (1 : Int32)) (x := v60) (by decide) (g := (mkF m 41 #[.val (.ref r0), .val (.ref r1), .val (.int v60), .val (.int (0 : Int32)), .val (.int (1 : Int32))] [(.int v60), (.int (1 : Int32)), (.ref b11)])) rfl rfl (hb hby dn_d41)
  have Z71 : n0 ≤ h71.size := Nat.le_trans Z42 (Keep.of_wr W71).1
  have N71 := Fr.snoc X71 N69 g_b11
  have F72 := Exa.wr W71 F43
  have F73 := Fld.other W71 F44 (Or.inl ne_r0_b11)
  have F74 := Fld.other W71 F45 (Or.inl ne_r0_b11)
  have F75 := Fld.other W71 F46 (Or.inl ne_r0_b11)
  have F76 := Exa.wr W71 F47
  have F77 := Fld.other W71 F48 (Or.inl ne_r1_b11)
  have F78 := Fld.other W71 F49 (Or.inl ne_r1_b11)
  have F79 := F50.other W71 ne_ed_b11
  have F80 := Exa.wr W71 F51
  have F81 := Fld.other W71 F52 (Or.inl ne_x0_b11)
  have F82 := Fld.other W71 F53 (Or.inl ne_x0_b11)
  have F83 := Exa.wr W71 F54
  have F84 := Fld.other W71 F55 (Or.inl ne_x1_b11)
  have F85 := Fld.other W71 F56 (Or.inl ne_x1_b11)
  have F86 := Exa.wr W71 F57
  have F87 := Fld.other W71 F58 (Or.inl ne_x2_b11)
  have F88 := Fld.other W71 F59 (Or.inl ne_x2_b11)
  have Kp71 : Keep h0 h71 [r0] := Kp42.wr W71 (Or.inr sz_b11)
  obtain ⟨f41_1, hf41_1, V71'⟩ : ∃ f41_1 : Nat → Int32, f41_1 = (upd f41 ((1 : Int32)).toNatClampNeg v60) ∧ IA Z h71 b11 .int 3 f41_1 := ⟨_, rfl, V71⟩
  obtain ⟨cq89, kq89, q89a, q89b, q89c⟩ := isOf hZ e71 F76
  obtain ⟨_, _, ⟨T89, L89, k89, n89⟩, -, X89, ⟨Lc89, hQ89, l89, y89, z89⟩, st89⟩ := X71.interfaceBack hx (xi := (⟨"java/util/List", "get", "(I)Ljava/lang/Object;"⟩ : MethodName)) (y := (⟨"java/util/ArrayList", "get", "(I)Ljava/lang/Object;"⟩ : MethodName)) hown (mvT hZ (hw _ (gw 119 rfl))) (mvT hZ (hw _ (gw 120 rfl))) (mvT hZ (hw _ (gw 121 rfl))) (mvT hZ (hw _ (gw 122 rfl))) (mvT hZ (hw _ (gw 123 rfl))) (mvT hZ (hw _ (gw 124 rfl))) (mvT hZ (hw _ (gw 125 rfl))) (mvT hZ (hw _ (gw 41 rfl))) (by decide) (backOf (W := 1) (rm_get l Z a0 hw [] r1 (1 : Int32) (3 : Int32) ed x1 f h71 n0 Z71 F76 F78 F79 F77 (by decide) hf1 (by decide) (by decide)) hZ (hw _ (gw 126 rfl)) (hw _ (gw 3 rfl)) (by decide) (by decide)) q89a q89b q89c (g := (mkF m 46 #[.val (.ref r0), .val (.ref r1), .val (.int v60), .val (.int (0 : Int32)), .val (.int (1 : Int32))] [(.int (1 : Int32)), (.ref r1), (.int v60)])) rfl (by rw [hml]; rfl) (Steps.refl _) (argsL := [(.int (1 : Int32))]) (rest := [(.int v60)]) (lenOf dn3_pd1 rfl) rfl (by show 2 * 0 + _ ≤ _; exact Nat.le_of_eq rfl) (hb hby dn_d46) (fun _ _ => ⟨rfl, e71, (by decide : 1 + 0 ≤ _), (by decide : 3 + 0 ≤ _)⟩)
  dsimp only [Pt.U, Pt.locs, Pt.cells, Pt.slots] at X89 l89 y89 z89 st89 hQ89
  rw [l89, y89, z89] at X89
  obtain ⟨rfl, N89q, e89⟩ := hQ89
  have N89 := Fr.app N71 N89q
  obtain ⟨T90, X90, e90, st90⟩ := castY X89 hx hZ hown (hw _ (gw 140 rfl)) e89 (Ins.self F83) (g := (mkF m 51 #[.val (.ref r0), .val (.ref r1), .val (.int v60), .val (.int (0 : Int32)), .val (.int (1 : Int32))] [(.ref x1), (.int v60)])) rfl rfl (hb hby dn_d51)
  obtain ⟨cq91, kq91, q91a, q91b, q91c⟩ := isOf hZ e90 F83
  obtain ⟨_, _, ⟨T91, L91, k91, n91⟩, -, X91, ⟨Lc91, hQ91, l91, y91, z91⟩, st91⟩ := X90.virtualBack hx (y := (⟨"com/example/termwright/termwright/Commit$Segment", "documentCount", "()I"⟩ : MethodName)) (z := (⟨"com/example/termwright/termwright/Commit$Segment", "documentCount", "()I"⟩ : MethodName)) hown (mvT hZ (hw _ (gw 142 rfl))) (mvT hZ (hw _ (gw 143 rfl))) (notFace_of_selects (args := #[]) (mvT hZ (hw _ (gw 145 rfl)))) (mvT hZ (hw _ (gw 145 rfl))) (mvT hZ (hw _ (gw 144 rfl))) (by decide) (backOf (W := 1) (rm_dcn l Z a0 hw [] x1 d1 h71 n0 Z71 F84) hZ (hw _ (gw 146 rfl)) (hw _ (gw 59 rfl)) (by decide) (by decide)) q91a q91c (g := (mkF m 54 #[.val (.ref r0), .val (.ref r1), .val (.int v60), .val (.int (0 : Int32)), .val (.int (1 : Int32))] [(.ref x1), (.int v60)])) rfl (by rw [hml]; rfl) (Steps.refl _) (argsL := []) (rest := [(.int v60)]) (lenOf dn3_pd0 rfl) rfl (by show 2 * 0 + _ ≤ _; exact Nat.le_of_eq rfl) (hb hby dn_d54) (fun _ _ => ⟨rfl, e90, (by decide : 1 + 0 ≤ _), (by decide : 3 + 0 ≤ _)⟩)
  dsimp only [Pt.U, Pt.locs, Pt.cells, Pt.slots] at X91 l91 y91 z91 st91 hQ91
  rw [l91, y91, z91] at X91
  obtain ⟨rfl, N91q, e91⟩ := hQ91
  have N91 := Fr.app N89 N91q
  obtain ⟨_, _, ⟨T92, L92, k92, n92⟩, -, X92, ⟨Lc92, hQ92, l92, y92, z92⟩, st92⟩ := Jvm.LawKit.callS X91 hx (y := (⟨"java/lang/Math", "addExact", "(II)I"⟩ : MethodName)) hown (mvT hZ (hw _ (gw 147 rfl))) (mvT hZ (hw _ (gw 148 rfl))) (mvT hZ (hw _ (gw 114 rfl))) (mvT hZ (hw _ (gw 149 rfl))) (by decide) (backOf (W := 0) (rm_adx l Z a0 hw [] v60 d1 h71 n0 Z71 (by rw [hv60]; exact hs1)) hZ (hw _ (gw 149 rfl)) (hw _ (gw 114 rfl)) (by decide) (by decide)) (g := (mkF m 57 #[.val (.ref r0), .val (.ref r1), .val (.int v60), .val (.int (0 : Int32)), .val (.int (1 : Int32))] [(.int d1), (.int v60)])) rfl (by rw [hml]; rfl) (argsL := [(.int v60), (.int d1)]) (rest := []) (lenOf dn3_pd2 rfl) rfl (by show 2 * 0 + _ ≤ _; exact Nat.le_of_eq rfl) (hb hby dn_d57) (fun _ _ => ⟨rfl, e91, (by decide : 1 + 0 ≤ _), (by decide : 3 + 0 ≤ _)⟩)
  dsimp only [Pt.U, Pt.locs, Pt.cells, Pt.slots] at X92 l92 y92 z92 st92 hQ92
  rw [l92, y92, z92] at X92
  obtain ⟨rfl, N92q, e92⟩ := hQ92
  have N92 := Fr.app N91 N92q
  have K93 : ∀ t, Steps p.tables e below (T92.setTop (mkF m 61 #[.val (.ref r0), .val (.ref r1), .val (.int (v60 + d1)), .val (.int (0 : Int32)), .val (.int (1 : Int32))] [])) t → P0 t := by
    intro t kt
    refine K65 t ?_
    refine XS.iloadN X63.here hx rfl (hb hby dn_d61) rfl ?_
    refine XS.aloadN X63.here hx rfl (hb hby dn_d62) rfl rfl ?_
    refine XS.iload X63.here hx rfl (hb hby dn_d63) rfl ?_
    show Steps p.tables e below (T63.setTop (mkF m 65 #[.val (.ref r0), .val (.ref r1), .val (.int v60), .val (.int (0 : Int32)), .val (.int (0 : Int32))] [(.int (0 : Int32)), (.ref r1), (.int (0 : Int32))])) t
    refine st66.trans ?_
    show Steps p.tables e below (T66.setTop (mkF m 70 #[.val (.ref r0), .val (.ref r1), .val (.int v60), .val (.int (0 : Int32)), .val (.int (0 : Int32))] [(.ref x0), (.int (0 : Int32))])) t
    refine st67 _ ?_
    show Steps p.tables e below (T67.setTop (mkF m 73 #[.val (.ref r0), .val (.ref r1), .val (.int v60), .val (.int (0 : Int32)), .val (.int (0 : Int32))] [(.ref x0), (.int (0 : Int32))])) t
    refine st68.trans ?_
    show Steps p.tables e below (T68.setTop (mkF m 76 #[.val (.ref r0), .val (.ref r1), .val (.int v60), .val (.int (0 : Int32)), .val (.int (0 : Int32))] [(.int (0 : Int32)), (.int (0 : Int32))])) t
    refine XS.iadd X68.here hx rfl (hb hby dn_d76) rfl ?_
    show Steps p.tables e below (T68.setTop (mkF m 77 #[.val (.ref r0), .val (.ref r1), .val (.int v60), .val (.int (0 : Int32)), .val (.int (0 : Int32))] [(.int (0 : Int32))])) t
    refine XS.istoreN X68.here hx rfl (hb hby dn_d77) rfl (l' := #[.val (.ref r0), .val (.ref r1), .val (.int v60), .val (.int (0 : Int32)), .val (.int (0 : Int32))]) rfl ?_
    show Steps p.tables e below (T68.setTop (mkF m 78 #[.val (.ref r0), .val (.ref r1), .val (.int v60), .val (.int (0 : Int32)), .val (.int (0 : Int32))] [])) t
    refine XS.iinc X68.here hx rfl (hb hby dn_d78) rfl (l' := #[.val (.ref r0), .val (.ref r1), .val (.int v60), .val (.int (0 : Int32)), .val (.int (1 : Int32))]) rfl ?_
    show Steps p.tables e below (T68.setTop (mkF m 81 #[.val (.ref r0), .val (.ref r1), .val (.int v60), .val (.int (0 : Int32)), .val (.int (1 : Int32))] [])) t
    refine XS.goto X68.here hx rfl (pc0 := 81) (pc' := 23) rfl (hb hby dn_d81) (by decide) (by decide) ?_
    refine XS.iload X68.here hx rfl (hb hby dn_d23) rfl ?_
    refine XS.aloadN X68.here hx rfl (hb hby dn_d25) rfl rfl ?_
    show Steps p.tables e below (T68.setTop (mkF m 26 #[.val (.ref r0), .val (.ref r1), .val (.int v60), .val (.int (0 : Int32)), .val (.int (1 : Int32))] [(.ref r1), (.int (1 : Int32))])) t
    refine st69.trans ?_
    show Steps p.tables e below (T69.setTop (mkF m 31 #[.val (.ref r0), .val (.ref r1), .val (.int v60), .val (.int (0 : Int32)), .val (.int (1 : Int32))] [(.int (3 : Int32)), (.int (1 : Int32))])) t
    refine XS.icmpNo X69.here hx rfl (hb hby dn_d31) rfl (tlt (by decide)).2.1 ?_
    refine XS.aloadN X69.here hx rfl (hb hby dn_d34) rfl rfl ?_
    show Steps p.tables e below (T69.setTop (mkF m 35 #[.val (.ref r0), .val (.ref r1), .val (.int v60), .val (.int (0 : Int32)), .val (.int (1 : Int32))] [(.ref r0)])) t
    refine st70 _ ?_
    refine XS.iload X70.here hx rfl (hb hby dn_d38) rfl ?_
    refine XS.iloadN X70.here hx rfl (hb hby dn_d40) rfl ?_
    show Steps p.tables e below (T70.setTop (mkF m 41 #[.val (.ref r0), .val (.ref r1), .val (.int v60), .val (.int (0 : Int32)), .val (.int (1 : Int32))] [(.int v60), (.int (1 : Int32)), (.ref b11)])) t
    refine st71 _ ?_
    refine XS.iloadN X71.here hx rfl (hb hby dn_d42) rfl ?_
    refine XS.aloadN X71.here hx rfl (hb hby dn_d43) rfl rfl ?_
    refine XS.iload X71.here hx rfl (hb hby dn_d44) rfl ?_
    show Steps p.tables e below (T71.setTop (mkF m 46 #[.val (.ref r0), .val (.ref r1), .val (.int v60), .val (.int (0 : Int32)), .val (.int (1 : Int32))] [(.int (1 : Int32)), (.ref r1), (.int v60)])) t
    refine st89.trans ?_
    show Steps p.tables e below (T89.setTop (mkF m 51 #[.val (.ref r0), .val (.ref r1), .val (.int v60), .val (.int (0 : Int32)), .val (.int (1 : Int32))] [(.ref x1), (.int v60)])) t
    refine st90 _ ?_
    show Steps p.tables e below (T90.setTop (mkF m 54 #[.val (.ref r0), .val (.ref r1), .val (.int v60), .val (.int (0 : Int32)), .val (.int (1 : Int32))] [(.ref x1), (.int v60)])) t
    refine st91.trans ?_
    show Steps p.tables e below (T91.setTop (mkF m 57 #[.val (.ref r0), .val (.ref r1), .val (.int v60), .val (.int (0 : Int32)), .val (.int (1 : Int32))] [(.int d1), (.int v60)])) t
    refine st92 _ ?_
    show Steps p.tables e below (T92.setTop (mkF m 60 #[.val (.ref r0), .val (.ref r1), .val (.int v60), .val (.int (0 : Int32)), .val (.int (1 : Int32))] [(.int (v60 + d1))])) t
    refine XS.istoreN X92.here hx rfl (hb hby dn_d60) rfl (l' := #[.val (.ref r0), .val (.ref r1), .val (.int (v60 + d1)), .val (.int (0 : Int32)), .val (.int (1 : Int32))]) rfl ?_
    exact kt
  obtain ⟨v60_1, hv60_1, K94⟩ : ∃ v60_1 : Int32, v60_1 = (v60 + d1) ∧ ∀ t, Steps p.tables e below (T92.setTop (mkF m 61 #[.val (.ref r0), .val (.ref r1), .val (.int v60_1), .val (.int (0 : Int32)), .val (.int (1 : Int32))] [])) t → P0 t := ⟨_, rfl, K93⟩
  obtain ⟨cq95, kq95, q95a, q95b, q95c⟩ := isOf hZ e92 F76
  obtain ⟨_, _, ⟨T95, L95, k95, n95⟩, -, X95, ⟨Lc95, hQ95, l95, y95, z95⟩, st95⟩ := X92.interfaceBack hx (xi := (⟨"java/util/List", "get", "(I)Ljava/lang/Object;"⟩ : MethodName)) (y := (⟨"java/util/ArrayList", "get", "(I)Ljava/lang/Object;"⟩ : MethodName)) hown (mvT hZ (hw _ (gw 119 rfl))) (mvT hZ (hw _ (gw 120 rfl))) (mvT hZ (hw _ (gw 121 rfl))) (mvT hZ (hw _ (gw 122 rfl))) (mvT hZ (hw _ (gw 123 rfl))) (mvT hZ (hw _ (gw 124 rfl))) (mvT hZ (hw _ (gw 125 rfl))) (mvT hZ (hw _ (gw 41 rfl))) (by decide) (backOf (W := 1) (rm_get l Z a0 hw [] r1 (1 : Int32) (3 : Int32) ed x1 f h71 n0 Z71 F76 F78 F79 F77 (by decide) hf1 (by decide) (by decide)) hZ (hw _ (gw 126 rfl)) (hw _ (gw 3 rfl)) (by decide) (by decide)) q95a q95b q95c (g := (mkF m 65 #[.val (.ref r0), .val (.ref r1), .val (.int v60_1), .val (.int (0 : Int32)), .val (.int (1 : Int32))] [(.int (1 : Int32)), (.ref r1), (.int (0 : Int32))])) rfl (by rw [hml]; rfl) (Steps.refl _) (argsL := [(.int (1 : Int32))]) (rest := [(.int (0 : Int32))]) (lenOf dn3_pd1 rfl) rfl (by show 2 * 0 + _ ≤ _; exact Nat.le_of_eq rfl) (hb hby dn_d65) (fun _ _ => ⟨rfl, e92, (by decide : 1 + 0 ≤ _), (by decide : 3 + 0 ≤ _)⟩)
  dsimp only [Pt.U, Pt.locs, Pt.cells, Pt.slots] at X95 l95 y95 z95 st95 hQ95
  rw [l95, y95, z95] at X95
  obtain ⟨rfl, N95q, e95⟩ := hQ95
  have N95 := Fr.app N92 N95q
  obtain ⟨T96, X96, e96, st96⟩ := castY X95 hx hZ hown (hw _ (gw 140 rfl)) e95 (Ins.self F83) (g := (mkF m 70 #[.val (.ref r0), .val (.ref r1), .val (.int v60_1), .val (.int (0 : Int32)), .val (.int (1 : Int32))] [(.ref x1), (.int (0 : Int32))])) rfl rfl (hb hby dn_d70)
  obtain ⟨cq97, kq97, q97a, q97b, q97c⟩ := isOf hZ e96 F83
  obtain ⟨_, _, ⟨T97, L97, k97, n97⟩, -, X97, ⟨Lc97, hQ97, l97, y97, z97⟩, st97⟩ := X96.virtualBack hx (y := (⟨"com/example/termwright/termwright/Commit$Segment", "deletedCount", "()I"⟩ : MethodName)) (z := (⟨"com/example/termwright/termwright/Commit$Segment", "deletedCount", "()I"⟩ : MethodName)) hown (mvT hZ (hw _ (gw 150 rfl))) (mvT hZ (hw _ (gw 151 rfl))) (notFace_of_selects (args := #[]) (mvT hZ (hw _ (gw 153 rfl)))) (mvT hZ (hw _ (gw 153 rfl))) (mvT hZ (hw _ (gw 152 rfl))) (by decide) (backOf (W := 1) (rm_dlc l Z a0 hw [] x1 h71 n0 Z71 F85) hZ (hw _ (gw 154 rfl)) (hw _ (gw 59 rfl)) (by decide) (by decide)) q97a q97c (g := (mkF m 73 #[.val (.ref r0), .val (.ref r1), .val (.int v60_1), .val (.int (0 : Int32)), .val (.int (1 : Int32))] [(.ref x1), (.int (0 : Int32))])) rfl (by rw [hml]; rfl) (Steps.refl _) (argsL := []) (rest := [(.int (0 : Int32))]) (lenOf dn3_pd0 rfl) rfl (by show 2 * 0 + _ ≤ _; exact Nat.le_of_eq rfl) (hb hby dn_d73) (fun _ _ => ⟨rfl, e96, (by decide : 1 + 0 ≤ _), (by decide : 3 + 0 ≤ _)⟩)
  dsimp only [Pt.U, Pt.locs, Pt.cells, Pt.slots] at X97 l97 y97 z97 st97 hQ97
  rw [l97, y97, z97] at X97
  obtain ⟨rfl, N97q, e97⟩ := hQ97
  have N97 := Fr.app N95 N97q
  obtain ⟨cq98, kq98, q98a, q98b, q98c⟩ := isOf hZ e97 F76
  obtain ⟨_, _, ⟨T98, L98, k98, n98⟩, -, X98, ⟨Lc98, hQ98, l98, y98, z98⟩, st98⟩ := X97.interfaceBack hx (xi := (⟨"java/util/List", "size", "()I"⟩ : MethodName)) (y := (⟨"java/util/ArrayList", "size", "()I"⟩ : MethodName)) hown (mvT hZ (hw _ (gw 34 rfl))) (mvT hZ (hw _ (gw 35 rfl))) (mvT hZ (hw _ (gw 36 rfl))) (mvT hZ (hw _ (gw 37 rfl))) (mvT hZ (hw _ (gw 38 rfl))) (mvT hZ (hw _ (gw 39 rfl))) (mvT hZ (hw _ (gw 40 rfl))) (mvT hZ (hw _ (gw 41 rfl))) (by decide) (backOf (W := 1) (rm_siz l Z a0 hw [] r1 (3 : Int32) h71 n0 Z71 F77) hZ (hw _ (gw 42 rfl)) (hw _ (gw 3 rfl)) (by decide) (by decide)) q98a q98b q98c (g := (mkF m 26 #[.val (.ref r0), .val (.ref r1), .val (.int v60_1), .val (.int (0 : Int32)), .val (.int (2 : Int32))] [(.ref r1), (.int (2 : Int32))])) rfl (by rw [hml]; rfl) (Steps.refl _) (argsL := []) (rest := [(.int (2 : Int32))]) (lenOf dn3_pd0 rfl) rfl (by show 2 * 0 + _ ≤ _; exact Nat.le_of_eq rfl) (hb hby dn_d26) (fun _ _ => ⟨rfl, e97, (by decide : 1 + 0 ≤ _), (by decide : 3 + 0 ≤ _)⟩)
  dsimp only [Pt.U, Pt.locs, Pt.cells, Pt.slots] at X98 l98 y98 z98 st98 hQ98
  rw [l98, y98, z98] at X98
  obtain ⟨rfl, N98q, e98⟩ := hQ98
  have N98 := Fr.app N97 N98q
  obtain ⟨T99, X99, e99, st99⟩ := getF X98 hx hZ hown (host := "") (Or.inl (hw _ (gw 46 rfl))) Via.refl e98 F73 (g := (mkF m 35 #[.val (.ref r0), .val (.ref r1), .val (.int v60_1), .val (.int (0 : Int32)), .val (.int (2 : Int32))] [(.ref r0)])) rfl rfl (hb hby dn_d35)
  obtain ⟨T100, h100, X100, e100, ⟨sl100, vv100, W100⟩, V100, st100⟩ := stIA X99 hx hZ e99 V71' (j := (2 : Int32)) (x := v60_1) (by decide) (g := (mkF m 41 #[.val (.ref r0), .val (.ref r1), .val (.int v60_1), .val (.int (0 : Int32)), .val (.int (2 : Int32))] [(.int v60_1), (.int (2 : Int32)), (.ref b11)])) rfl rfl (hb hby dn_d41)
  have Z100 : n0 ≤ h100.size := Nat.le_trans Z71 (Keep.of_wr W100).1
  have N100 := Fr.snoc X100 N98 g_b11
  have F101 := Exa.wr W100 F72
  have F102 := Fld.other W100 F73 (Or.inl ne_r0_b11)
  have F103 := Fld.other W100 F74 (Or.inl ne_r0_b11)
  have F104 := Fld.other W100 F75 (Or.inl ne_r0_b11)
  have F105 := Exa.wr W100 F76
  have F106 := Fld.other W100 F77 (Or.inl ne_r1_b11)
  have F107 := Fld.other W100 F78 (Or.inl ne_r1_b11)
  have F108 := F79.other W100 ne_ed_b11
  have F109 := Exa.wr W100 F80
  have F110 := Fld.other W100 F81 (Or.inl ne_x0_b11)
  have F111 := Fld.other W100 F82 (Or.inl ne_x0_b11)
  have F112 := Exa.wr W100 F83
  have F113 := Fld.other W100 F84 (Or.inl ne_x1_b11)
  have F114 := Fld.other W100 F85 (Or.inl ne_x1_b11)
  have F115 := Exa.wr W100 F86
  have F116 := Fld.other W100 F87 (Or.inl ne_x2_b11)
  have F117 := Fld.other W100 F88 (Or.inl ne_x2_b11)
  have Kp100 : Keep h0 h100 [r0] := Kp71.wr W100 (Or.inr sz_b11)
  obtain ⟨f41_2, hf41_2, V100'⟩ : ∃ f41_2 : Nat → Int32, f41_2 = (upd f41_1 ((2 : Int32)).toNatClampNeg v60_1) ∧ IA Z h100 b11 .int 3 f41_2 := ⟨_, rfl, V100⟩
  obtain ⟨cq118, kq118, q118a, q118b, q118c⟩ := isOf hZ e100 F105
  obtain ⟨_, _, ⟨T118, L118, k118, n118⟩, -, X118, ⟨Lc118, hQ118, l118, y118, z118⟩, st118⟩ := X100.interfaceBack hx (xi := (⟨"java/util/List", "get", "(I)Ljava/lang/Object;"⟩ : MethodName)) (y := (⟨"java/util/ArrayList", "get", "(I)Ljava/lang/Object;"⟩ : MethodName)) hown (mvT hZ (hw _ (gw 119 rfl))) (mvT hZ (hw _ (gw 120 rfl))) (mvT hZ (hw _ (gw 121 rfl))) (mvT hZ (hw _ (gw 122 rfl))) (mvT hZ (hw _ (gw 123 rfl))) (mvT hZ (hw _ (gw 124 rfl))) (mvT hZ (hw _ (gw 125 rfl))) (mvT hZ (hw _ (gw 41 rfl))) (by decide) (backOf (W := 1) (rm_get l Z a0 hw [] r1 (2 : Int32) (3 : Int32) ed x2 f h100 n0 Z100 F105 F107 F108 F106 (by decide) hf2 (by decide) (by decide)) hZ (hw _ (gw 126 rfl)) (hw _ (gw 3 rfl)) (by decide) (by decide)) q118a q118b q118c (g := (mkF m 46 #[.val (.ref r0), .val (.ref r1), .val (.int v60_1), .val (.int (0 : Int32)), .val (.int (2 : Int32))] [(.int (2 : Int32)), (.ref r1), (.int v60_1)])) rfl (by rw [hml]; rfl) (Steps.refl _) (argsL := [(.int (2 : Int32))]) (rest := [(.int v60_1)]) (lenOf dn3_pd1 rfl) rfl (by show 2 * 0 + _ ≤ _; exact Nat.le_of_eq rfl) (hb hby dn_d46) (fun _ _ => ⟨rfl, e100, (by decide : 1 + 0 ≤ _), (by decide : 3 + 0 ≤ _)⟩)
  dsimp only [Pt.U, Pt.locs, Pt.cells, Pt.slots] at X118 l118 y118 z118 st118 hQ118
  rw [l118, y118, z118] at X118
  obtain ⟨rfl, N118q, e118⟩ := hQ118
  have N118 := Fr.app N100 N118q
  obtain ⟨T119, X119, e119, st119⟩ := castY X118 hx hZ hown (hw _ (gw 140 rfl)) e118 (Ins.self F115) (g := (mkF m 51 #[.val (.ref r0), .val (.ref r1), .val (.int v60_1), .val (.int (0 : Int32)), .val (.int (2 : Int32))] [(.ref x2), (.int v60_1)])) rfl rfl (hb hby dn_d51)
  obtain ⟨cq120, kq120, q120a, q120b, q120c⟩ := isOf hZ e119 F115
  obtain ⟨_, _, ⟨T120, L120, k120, n120⟩, -, X120, ⟨Lc120, hQ120, l120, y120, z120⟩, st120⟩ := X119.virtualBack hx (y := (⟨"com/example/termwright/termwright/Commit$Segment", "documentCount", "()I"⟩ : MethodName)) (z := (⟨"com/example/termwright/termwright/Commit$Segment", "documentCount", "()I"⟩ : MethodName)) hown (mvT hZ (hw _ (gw 142 rfl))) (mvT hZ (hw _ (gw 143 rfl))) (notFace_of_selects (args := #[]) (mvT hZ (hw _ (gw 145 rfl)))) (mvT hZ (hw _ (gw 145 rfl))) (mvT hZ (hw _ (gw 144 rfl))) (by decide) (backOf (W := 1) (rm_dcn l Z a0 hw [] x2 d2 h100 n0 Z100 F116) hZ (hw _ (gw 146 rfl)) (hw _ (gw 59 rfl)) (by decide) (by decide)) q120a q120c (g := (mkF m 54 #[.val (.ref r0), .val (.ref r1), .val (.int v60_1), .val (.int (0 : Int32)), .val (.int (2 : Int32))] [(.ref x2), (.int v60_1)])) rfl (by rw [hml]; rfl) (Steps.refl _) (argsL := []) (rest := [(.int v60_1)]) (lenOf dn3_pd0 rfl) rfl (by show 2 * 0 + _ ≤ _; exact Nat.le_of_eq rfl) (hb hby dn_d54) (fun _ _ => ⟨rfl, e119, (by decide : 1 + 0 ≤ _), (by decide : 3 + 0 ≤ _)⟩)
  dsimp only [Pt.U, Pt.locs, Pt.cells, Pt.slots] at X120 l120 y120 z120 st120 hQ120
  rw [l120, y120, z120] at X120
  obtain ⟨rfl, N120q, e120⟩ := hQ120
  have N120 := Fr.app N118 N120q
  obtain ⟨_, _, ⟨T121, L121, k121, n121⟩, -, X121, ⟨Lc121, hQ121, l121, y121, z121⟩, st121⟩ := Jvm.LawKit.callS X120 hx (y := (⟨"java/lang/Math", "addExact", "(II)I"⟩ : MethodName)) hown (mvT hZ (hw _ (gw 147 rfl))) (mvT hZ (hw _ (gw 148 rfl))) (mvT hZ (hw _ (gw 114 rfl))) (mvT hZ (hw _ (gw 149 rfl))) (by decide) (backOf (W := 0) (rm_adx l Z a0 hw [] v60_1 d2 h100 n0 Z100 (by rw [hv60_1, hv60]; exact hs2)) hZ (hw _ (gw 149 rfl)) (hw _ (gw 114 rfl)) (by decide) (by decide)) (g := (mkF m 57 #[.val (.ref r0), .val (.ref r1), .val (.int v60_1), .val (.int (0 : Int32)), .val (.int (2 : Int32))] [(.int d2), (.int v60_1)])) rfl (by rw [hml]; rfl) (argsL := [(.int v60_1), (.int d2)]) (rest := []) (lenOf dn3_pd2 rfl) rfl (by show 2 * 0 + _ ≤ _; exact Nat.le_of_eq rfl) (hb hby dn_d57) (fun _ _ => ⟨rfl, e120, (by decide : 1 + 0 ≤ _), (by decide : 3 + 0 ≤ _)⟩)
  dsimp only [Pt.U, Pt.locs, Pt.cells, Pt.slots] at X121 l121 y121 z121 st121 hQ121
  rw [l121, y121, z121] at X121
  obtain ⟨rfl, N121q, e121⟩ := hQ121
  have N121 := Fr.app N120 N121q
  have K122 : ∀ t, Steps p.tables e below (T121.setTop (mkF m 61 #[.val (.ref r0), .val (.ref r1), .val (.int (v60_1 + d2)), .val (.int (0 : Int32)), .val (.int (2 : Int32))] [])) t → P0 t := by
    intro t kt
    refine K94 t ?_
    refine XS.iloadN X92.here hx rfl (hb hby dn_d61) rfl ?_
    refine XS.aloadN X92.here hx rfl (hb hby dn_d62) rfl rfl ?_
    refine XS.iload X92.here hx rfl (hb hby dn_d63) rfl ?_
    show Steps p.tables e below (T92.setTop (mkF m 65 #[.val (.ref r0), .val (.ref r1), .val (.int v60_1), .val (.int (0 : Int32)), .val (.int (1 : Int32))] [(.int (1 : Int32)), (.ref r1), (.int (0 : Int32))])) t
    refine st95.trans ?_
    show Steps p.tables e below (T95.setTop (mkF m 70 #[.val (.ref r0), .val (.ref r1), .val (.int v60_1), .val (.int (0 : Int32)), .val (.int (1 : Int32))] [(.ref x1), (.int (0 : Int32))])) t
    refine st96 _ ?_
    show Steps p.tables e below (T96.setTop (mkF m 73 #[.val (.ref r0), .val (.ref r1), .val (.int v60_1), .val (.int (0 : Int32)), .val (.int (1 : Int32))] [(.ref x1), (.int (0 : Int32))])) t
    refine st97.trans ?_
    show Steps p.tables e below (T97.setTop (mkF m 76 #[.val (.ref r0), .val (.ref r1), .val (.int v60_1), .val (.int (0 : Int32)), .val (.int (1 : Int32))] [(.int (0 : Int32)), (.int (0 : Int32))])) t
    refine XS.iadd X97.here hx rfl (hb hby dn_d76) rfl ?_
    show Steps p.tables e below (T97.setTop (mkF m 77 #[.val (.ref r0), .val (.ref r1), .val (.int v60_1), .val (.int (0 : Int32)), .val (.int (1 : Int32))] [(.int (0 : Int32))])) t
    refine XS.istoreN X97.here hx rfl (hb hby dn_d77) rfl (l' := #[.val (.ref r0), .val (.ref r1), .val (.int v60_1), .val (.int (0 : Int32)), .val (.int (1 : Int32))]) rfl ?_
    show Steps p.tables e below (T97.setTop (mkF m 78 #[.val (.ref r0), .val (.ref r1), .val (.int v60_1), .val (.int (0 : Int32)), .val (.int (1 : Int32))] [])) t
    refine XS.iinc X97.here hx rfl (hb hby dn_d78) rfl (l' := #[.val (.ref r0), .val (.ref r1), .val (.int v60_1), .val (.int (0 : Int32)), .val (.int (2 : Int32))]) rfl ?_
    show Steps p.tables e below (T97.setTop (mkF m 81 #[.val (.ref r0), .val (.ref r1), .val (.int v60_1), .val (.int (0 : Int32)), .val (.int (2 : Int32))] [])) t
    refine XS.goto X97.here hx rfl (pc0 := 81) (pc' := 23) rfl (hb hby dn_d81) (by decide) (by decide) ?_
    refine XS.iload X97.here hx rfl (hb hby dn_d23) rfl ?_
    refine XS.aloadN X97.here hx rfl (hb hby dn_d25) rfl rfl ?_
    show Steps p.tables e below (T97.setTop (mkF m 26 #[.val (.ref r0), .val (.ref r1), .val (.int v60_1), .val (.int (0 : Int32)), .val (.int (2 : Int32))] [(.ref r1), (.int (2 : Int32))])) t
    refine st98.trans ?_
    show Steps p.tables e below (T98.setTop (mkF m 31 #[.val (.ref r0), .val (.ref r1), .val (.int v60_1), .val (.int (0 : Int32)), .val (.int (2 : Int32))] [(.int (3 : Int32)), (.int (2 : Int32))])) t
    refine XS.icmpNo X98.here hx rfl (hb hby dn_d31) rfl (tlt (by decide)).2.1 ?_
    refine XS.aloadN X98.here hx rfl (hb hby dn_d34) rfl rfl ?_
    show Steps p.tables e below (T98.setTop (mkF m 35 #[.val (.ref r0), .val (.ref r1), .val (.int v60_1), .val (.int (0 : Int32)), .val (.int (2 : Int32))] [(.ref r0)])) t
    refine st99 _ ?_
    refine XS.iload X99.here hx rfl (hb hby dn_d38) rfl ?_
    refine XS.iloadN X99.here hx rfl (hb hby dn_d40) rfl ?_
    show Steps p.tables e below (T99.setTop (mkF m 41 #[.val (.ref r0), .val (.ref r1), .val (.int v60_1), .val (.int (0 : Int32)), .val (.int (2 : Int32))] [(.int v60_1), (.int (2 : Int32)), (.ref b11)])) t
    refine st100 _ ?_
    refine XS.iloadN X100.here hx rfl (hb hby dn_d42) rfl ?_
    refine XS.aloadN X100.here hx rfl (hb hby dn_d43) rfl rfl ?_
    refine XS.iload X100.here hx rfl (hb hby dn_d44) rfl ?_
    show Steps p.tables e below (T100.setTop (mkF m 46 #[.val (.ref r0), .val (.ref r1), .val (.int v60_1), .val (.int (0 : Int32)), .val (.int (2 : Int32))] [(.int (2 : Int32)), (.ref r1), (.int v60_1)])) t
    refine st118.trans ?_
    show Steps p.tables e below (T118.setTop (mkF m 51 #[.val (.ref r0), .val (.ref r1), .val (.int v60_1), .val (.int (0 : Int32)), .val (.int (2 : Int32))] [(.ref x2), (.int v60_1)])) t
    refine st119 _ ?_
    show Steps p.tables e below (T119.setTop (mkF m 54 #[.val (.ref r0), .val (.ref r1), .val (.int v60_1), .val (.int (0 : Int32)), .val (.int (2 : Int32))] [(.ref x2), (.int v60_1)])) t
    refine st120.trans ?_
    show Steps p.tables e below (T120.setTop (mkF m 57 #[.val (.ref r0), .val (.ref r1), .val (.int v60_1), .val (.int (0 : Int32)), .val (.int (2 : Int32))] [(.int d2), (.int v60_1)])) t
    refine st121 _ ?_
    show Steps p.tables e below (T121.setTop (mkF m 60 #[.val (.ref r0), .val (.ref r1), .val (.int v60_1), .val (.int (0 : Int32)), .val (.int (2 : Int32))] [(.int (v60_1 + d2))])) t
    refine XS.istoreN X121.here hx rfl (hb hby dn_d60) rfl (l' := #[.val (.ref r0), .val (.ref r1), .val (.int (v60_1 + d2)), .val (.int (0 : Int32)), .val (.int (2 : Int32))]) rfl ?_
    exact kt
  obtain ⟨v60_2, hv60_2, K123⟩ : ∃ v60_2 : Int32, v60_2 = (v60_1 + d2) ∧ ∀ t, Steps p.tables e below (T121.setTop (mkF m 61 #[.val (.ref r0), .val (.ref r1), .val (.int v60_2), .val (.int (0 : Int32)), .val (.int (2 : Int32))] [])) t → P0 t := ⟨_, rfl, K122⟩
  obtain ⟨cq124, kq124, q124a, q124b, q124c⟩ := isOf hZ e121 F105
  obtain ⟨_, _, ⟨T124, L124, k124, n124⟩, -, X124, ⟨Lc124, hQ124, l124, y124, z124⟩, st124⟩ := X121.interfaceBack hx (xi := (⟨"java/util/List", "get", "(I)Ljava/lang/Object;"⟩ : MethodName)) (y := (⟨"java/util/ArrayList", "get", "(I)Ljava/lang/Object;"⟩ : MethodName)) hown (mvT hZ (hw _ (gw 119 rfl))) (mvT hZ (hw _ (gw 120 rfl))) (mvT hZ (hw _ (gw 121 rfl))) (mvT hZ (hw _ (gw 122 rfl))) (mvT hZ (hw _ (gw 123 rfl))) (mvT hZ (hw _ (gw 124 rfl))) (mvT hZ (hw _ (gw 125 rfl))) (mvT hZ (hw _ (gw 41 rfl))) (by decide) (backOf (W := 1) (rm_get l Z a0 hw [] r1 (2 : Int32) (3 : Int32) ed x2 f h100 n0 Z100 F105 F107 F108 F106 (by decide) hf2 (by decide) (by decide)) hZ (hw _ (gw 126 rfl)) (hw _ (gw 3 rfl)) (by decide) (by decide)) q124a q124b q124c (g := (mkF m 65 #[.val (.ref r0), .val (.ref r1), .val (.int v60_2), .val (.int (0 : Int32)), .val (.int (2 : Int32))] [(.int (2 : Int32)), (.ref r1), (.int (0 : Int32))])) rfl (by rw [hml]; rfl) (Steps.refl _) (argsL := [(.int (2 : Int32))]) (rest := [(.int (0 : Int32))]) (lenOf dn3_pd1 rfl) rfl (by show 2 * 0 + _ ≤ _; exact Nat.le_of_eq rfl) (hb hby dn_d65) (fun _ _ => ⟨rfl, e121, (by decide : 1 + 0 ≤ _), (by decide : 3 + 0 ≤ _)⟩)
  dsimp only [Pt.U, Pt.locs, Pt.cells, Pt.slots] at X124 l124 y124 z124 st124 hQ124
  rw [l124, y124, z124] at X124
  obtain ⟨rfl, N124q, e124⟩ := hQ124
  have N124 := Fr.app N121 N124q
  obtain ⟨T125, X125, e125, st125⟩ := castY X124 hx hZ hown (hw _ (gw 140 rfl)) e124 (Ins.self F115) (g := (mkF m 70 #[.val (.ref r0), .val (.ref r1), .val (.int v60_2), .val (.int (0 : Int32)), .val (.int (2 : Int32))] [(.ref x2), (.int (0 : Int32))])) rfl rfl (hb hby dn_d70)
  obtain ⟨cq126, kq126, q126a, q126b, q126c⟩ := isOf hZ e125 F115
  obtain ⟨_, _, ⟨T126, L126, k126, n126⟩, -, X126, ⟨Lc126, hQ126, l126, y126, z126⟩, st126⟩ := X125.virtualBack hx (y := (⟨"com/example/termwright/termwright/Commit$Segment", "deletedCount", "()I"⟩ : MethodName)) (z := (⟨"com/example/termwright/termwright/Commit$Segment", "deletedCount", "()I"⟩ : MethodName)) hown (mvT hZ (hw _ (gw 150 rfl))) (mvT hZ (hw _ (gw 151 rfl))) (notFace_of_selects (args := #[]) (mvT hZ (hw _ (gw 153 rfl)))) (mvT hZ (hw _ (gw 153 rfl))) (mvT hZ (hw _ (gw 152 rfl))) (by decide) (backOf (W := 1) (rm_dlc l Z a0 hw [] x2 h100 n0 Z100 F117) hZ (hw _ (gw 154 rfl)) (hw _ (gw 59 rfl)) (by decide) (by decide)) q126a q126c (g := (mkF m 73 #[.val (.ref r0), .val (.ref r1), .val (.int v60_2), .val (.int (0 : Int32)), .val (.int (2 : Int32))] [(.ref x2), (.int (0 : Int32))])) rfl (by rw [hml]; rfl) (Steps.refl _) (argsL := []) (rest := [(.int (0 : Int32))]) (lenOf dn3_pd0 rfl) rfl (by show 2 * 0 + _ ≤ _; exact Nat.le_of_eq rfl) (hb hby dn_d73) (fun _ _ => ⟨rfl, e125, (by decide : 1 + 0 ≤ _), (by decide : 3 + 0 ≤ _)⟩)
  dsimp only [Pt.U, Pt.locs, Pt.cells, Pt.slots] at X126 l126 y126 z126 st126 hQ126
  rw [l126, y126, z126] at X126
  obtain ⟨rfl, N126q, e126⟩ := hQ126
  have N126 := Fr.app N124 N126q
  obtain ⟨cq127, kq127, q127a, q127b, q127c⟩ := isOf hZ e126 F105
  obtain ⟨_, _, ⟨T127, L127, k127, n127⟩, -, X127, ⟨Lc127, hQ127, l127, y127, z127⟩, st127⟩ := X126.interfaceBack hx (xi := (⟨"java/util/List", "size", "()I"⟩ : MethodName)) (y := (⟨"java/util/ArrayList", "size", "()I"⟩ : MethodName)) hown (mvT hZ (hw _ (gw 34 rfl))) (mvT hZ (hw _ (gw 35 rfl))) (mvT hZ (hw _ (gw 36 rfl))) (mvT hZ (hw _ (gw 37 rfl))) (mvT hZ (hw _ (gw 38 rfl))) (mvT hZ (hw _ (gw 39 rfl))) (mvT hZ (hw _ (gw 40 rfl))) (mvT hZ (hw _ (gw 41 rfl))) (by decide) (backOf (W := 1) (rm_siz l Z a0 hw [] r1 (3 : Int32) h100 n0 Z100 F106) hZ (hw _ (gw 42 rfl)) (hw _ (gw 3 rfl)) (by decide) (by decide)) q127a q127b q127c (g := (mkF m 26 #[.val (.ref r0), .val (.ref r1), .val (.int v60_2), .val (.int (0 : Int32)), .val (.int (3 : Int32))] [(.ref r1), (.int (3 : Int32))])) rfl (by rw [hml]; rfl) (Steps.refl _) (argsL := []) (rest := [(.int (3 : Int32))]) (lenOf dn3_pd0 rfl) rfl (by show 2 * 0 + _ ≤ _; exact Nat.le_of_eq rfl) (hb hby dn_d26) (fun _ _ => ⟨rfl, e126, (by decide : 1 + 0 ≤ _), (by decide : 3 + 0 ≤ _)⟩)
  dsimp only [Pt.U, Pt.locs, Pt.cells, Pt.slots] at X127 l127 y127 z127 st127 hQ127
  rw [l127, y127, z127] at X127
  obtain ⟨rfl, N127q, e127⟩ := hQ127
  have N127 := Fr.app N126 N127q
  obtain ⟨T128, h128, X128, e128, W128, st128⟩ := putF X127 hx hZ hown (host := "") (Or.inl (hw _ (gw 48 rfl))) Via.refl e127 F103 F101 (Or.inr ⟨(hw _ (gw 49 rfl)), rfl, hnm⟩) (hw _ (gw 28 rfl)) (ty := .int) (by decide) rfl rfl (g := (mkF m 86 #[.val (.ref r0), .val (.ref r1), .val (.int v60_2), .val (.int (0 : Int32)), .val (.int (3 : Int32))] [(.int v60_2), (.ref r0)])) rfl rfl (hb hby dn_d86)
  have Z128 : n0 ≤ h128.size := Nat.le_trans Z100 (Keep.of_wr W128).1
  have N128 := Fr.snoc X128 N127 g_r0
  have F129 := Exa.wr W128 F101
  have F130 := Fld.other W128 F102 (Or.inr (slot_ne (Or.inr (hw _ (gw 47 rfl))) (Or.inr (hw _ (gw 49 rfl))) (by decide) (t := (.array .int)) (t' := .int) (by decide) (by decide)))
  have F131 := Fld.other W128 F104 (Or.inr (slot_ne (Or.inr (hw _ (gw 51 rfl))) (Or.inr (hw _ (gw 49 rfl))) (by decide) (t := .int) (t' := .int) (by decide) (by decide)))
  have F132 := Exa.wr W128 F105
  have F133 := Fld.other W128 F106 (Or.inl (Ne.symm n_r0_r1))
  have F134 := Fld.other W128 F107 (Or.inl (Ne.symm n_r0_r1))
  have F135 := F108.other W128 (Ne.symm n_r0_ed)
  have F136 := Exa.wr W128 F109
  have F137 := Fld.other W128 F110 (Or.inl (Ne.symm n_r0_x0))
  have F138 := Fld.other W128 F111 (Or.inl (Ne.symm n_r0_x0))
  have F139 := Exa.wr W128 F112
  have F140 := Fld.other W128 F113 (Or.inl (Ne.symm n_r0_x1))
  have F141 := Fld.other W128 F114 (Or.inl (Ne.symm n_r0_x1))
  have F142 := Exa.wr W128 F115
  have F143 := Fld.other W128 F116 (Or.inl (Ne.symm n_r0_x2))
  have F144 := Fld.other W128 F117 (Or.inl (Ne.symm n_r0_x2))
  have F145 := V100'.other W128 (Ne.symm ne_r0_b11)
  have Kp128 : Keep h0 h128 [r0] := Kp100.wr W128 (Or.inl (List.mem_of_getElem? (i := 0) rfl))
  have F146 : Fld Z h128 r0 "com/example/termwright/termwright/DocumentNumbers" "count" "I" (.int v60_2) := Fld.same W128 F103
  obtain ⟨T147, h147, X147, e147, W147, st147⟩ := putF X128 hx hZ hown (host := "") (Or.inl (hw _ (gw 50 rfl))) Via.refl e128 F131 F129 (Or.inr ⟨(hw _ (gw 51 rfl)), rfl, hnm⟩) (hw _ (gw 28 rfl)) (ty := .int) (by decide) rfl rfl (g := (mkF m 91 #[.val (.ref r0), .val (.ref r1), .val (.int v60_2), .val (.int (0 : Int32)), .val (.int (3 : Int32))] [(.int (0 : Int32)), (.ref r0)])) rfl rfl (hb hby dn_d91)
  have Z147 : n0 ≤ h147.size := Nat.le_trans Z128 (Keep.of_wr W147).1
  have N147 := Fr.snoc X147 N128 g_r0
  have F148 := Exa.wr W147 F129
  have F149 := Fld.other W147 F130 (Or.inr (slot_ne (Or.inr (hw _ (gw 47 rfl))) (Or.inr (hw _ (gw 51 rfl))) (by decide) (t := (.array .int)) (t' := .int) (by decide) (by decide)))
  have F150 := Fld.other W147 F146 (Or.inr (slot_ne (Or.inr (hw _ (gw 49 rfl))) (Or.inr (hw _ (gw 51 rfl))) (by decide) (t := .int) (t' := .int) (by decide) (by decide)))
  have F151 := Exa.wr W147 F132
  have F152 := Fld.other W147 F133 (Or.inl (Ne.symm n_r0_r1))
  have F153 := Fld.other W147 F134 (Or.inl (Ne.symm n_r0_r1))
  have F154 := F135.other W147 (Ne.symm n_r0_ed)
  have F155 := Exa.wr W147 F136
  have F156 := Fld.other W147 F137 (Or.inl (Ne.symm n_r0_x0))
  have F157 := Fld.other W147 F138 (Or.inl (Ne.symm n_r0_x0))
  have F158 := Exa.wr W147 F139
  have F159 := Fld.other W147 F140 (Or.inl (Ne.symm n_r0_x1))
  have F160 := Fld.other W147 F141 (Or.inl (Ne.symm n_r0_x1))
  have F161 := Exa.wr W147 F142
  have F162 := Fld.other W147 F143 (Or.inl (Ne.symm n_r0_x2))
  have F163 := Fld.other W147 F144 (Or.inl (Ne.symm n_r0_x2))
  have F164 := F145.other W147 (Ne.symm ne_r0_b11)
  have Kp147 : Keep h0 h147 [r0] := Kp128.wr W147 (Or.inl (List.mem_of_getElem? (i := 0) rfl))
  have F165 : Fld Z h147 r0 "com/example/termwright/termwright/DocumentNumbers" "deletedCount" "I" (.int (0 : Int32)) := Fld.same W147 F131
  have K166 : ∀ t, Steps p.tables e below (T147.setTop (mkF m 94 #[.val (.ref r0), .val (.ref r1), .val (.int v60_2), .val (.int (0 : Int32)), .val (.int (3 : Int32))] [])) t → P0 t := by
    intro t kt
    refine K123 t ?_
    refine XS.iloadN X121.here hx rfl (hb hby dn_d61) rfl ?_
    refine XS.aloadN X121.here hx rfl (hb hby dn_d62) rfl rfl ?_
    refine XS.iload X121.here hx rfl (hb hby dn_d63) rfl ?_
    show Steps p.tables e below (T121.setTop (mkF m 65 #[.val (.ref r0), .val (.ref r1), .val (.int v60_2), .val (.int (0 : Int32)), .val (.int (2 : Int32))] [(.int (2 : Int32)), (.ref r1), (.int (0 : Int32))])) t
    refine st124.trans ?_
    show Steps p.tables e below (T124.setTop (mkF m 70 #[.val (.ref r0), .val (.ref r1), .val (.int v60_2), .val (.int (0 : Int32)), .val (.int (2 : Int32))] [(.ref x2), (.int (0 : Int32))])) t
    refine st125 _ ?_
    show Steps p.tables e below (T125.setTop (mkF m 73 #[.val (.ref r0), .val (.ref r1), .val (.int v60_2), .val (.int (0 : Int32)), .val (.int (2 : Int32))] [(.ref x2), (.int (0 : Int32))])) t
    refine st126.trans ?_
    show Steps p.tables e below (T126.setTop (mkF m 76 #[.val (.ref r0), .val (.ref r1), .val (.int v60_2), .val (.int (0 : Int32)), .val (.int (2 : Int32))] [(.int (0 : Int32)), (.int (0 : Int32))])) t
    refine XS.iadd X126.here hx rfl (hb hby dn_d76) rfl ?_
    show Steps p.tables e below (T126.setTop (mkF m 77 #[.val (.ref r0), .val (.ref r1), .val (.int v60_2), .val (.int (0 : Int32)), .val (.int (2 : Int32))] [(.int (0 : Int32))])) t
    refine XS.istoreN X126.here hx rfl (hb hby dn_d77) rfl (l' := #[.val (.ref r0), .val (.ref r1), .val (.int v60_2), .val (.int (0 : Int32)), .val (.int (2 : Int32))]) rfl ?_
    show Steps p.tables e below (T126.setTop (mkF m 78 #[.val (.ref r0), .val (.ref r1), .val (.int v60_2), .val (.int (0 : Int32)), .val (.int (2 : Int32))] [])) t
    refine XS.iinc X126.here hx rfl (hb hby dn_d78) rfl (l' := #[.val (.ref r0), .val (.ref r1), .val (.int v60_2), .val (.int (0 : Int32)), .val (.int (3 : Int32))]) rfl ?_
    show Steps p.tables e below (T126.setTop (mkF m 81 #[.val (.ref r0), .val (.ref r1), .val (.int v60_2), .val (.int (0 : Int32)), .val (.int (3 : Int32))] [])) t
    refine XS.goto X126.here hx rfl (pc0 := 81) (pc' := 23) rfl (hb hby dn_d81) (by decide) (by decide) ?_
    refine XS.iload X126.here hx rfl (hb hby dn_d23) rfl ?_
    refine XS.aloadN X126.here hx rfl (hb hby dn_d25) rfl rfl ?_
    show Steps p.tables e below (T126.setTop (mkF m 26 #[.val (.ref r0), .val (.ref r1), .val (.int v60_2), .val (.int (0 : Int32)), .val (.int (3 : Int32))] [(.ref r1), (.int (3 : Int32))])) t
    refine st127.trans ?_
    show Steps p.tables e below (T127.setTop (mkF m 31 #[.val (.ref r0), .val (.ref r1), .val (.int v60_2), .val (.int (0 : Int32)), .val (.int (3 : Int32))] [(.int (3 : Int32)), (.int (3 : Int32))])) t
    refine XS.icmpYes X127.here hx rfl (pc0 := 31) (pc' := 84) rfl (hb hby dn_d31) rfl (flt (by decide)).2.1 (by decide) (by decide) ?_
    refine XS.aloadN X127.here hx rfl (hb hby dn_d84) rfl rfl ?_
    refine XS.iloadN X127.here hx rfl (hb hby dn_d85) rfl ?_
    show Steps p.tables e below (T127.setTop (mkF m 86 #[.val (.ref r0), .val (.ref r1), .val (.int v60_2), .val (.int (0 : Int32)), .val (.int (3 : Int32))] [(.int v60_2), (.ref r0)])) t
    refine st128 _ ?_
    refine XS.aloadN X128.here hx rfl (hb hby dn_d89) rfl rfl ?_
    refine XS.iloadN X128.here hx rfl (hb hby dn_d90) rfl ?_
    show Steps p.tables e below (T128.setTop (mkF m 91 #[.val (.ref r0), .val (.ref r1), .val (.int v60_2), .val (.int (0 : Int32)), .val (.int (3 : Int32))] [(.int (0 : Int32)), (.ref r0)])) t
    refine st147 _ ?_
    exact kt
  obtain ⟨fs, hr, hrun, hended, hW, hsame⟩ := X147.leave (v := none) (fun _ => rfl)
  refine ⟨_, _, ?_, hrun, hended, _, _, rfl, ?_, ⟨_, rfl⟩, hW, hsame.mono (by decide) (by decide)⟩
  · skip
    have q := K166 _ (X147.returnOut hx Bd.returns (hb hby dn_d94) hr)
    rw [hP0] at q; exact q
  · show QDn3 Z r0 d0 d1 d2 h0 n0 _ T147.heap _
    rw [e147]
    subst hf11
    subst hf41
    subst hv60
    subst hf41_1
    subst hv60_1
    subst hf41_2
    subst hv60_2
    exact ⟨b11, rfl, N147, Kp147, sz_b11, F148, F149, F164⟩
def fB4 (d0 d1 d2 d3 : Int32) : Nat → Int32 :=
  let f11 : Nat → Int32 := (fun _ => (0 : Int32))
  let f41 : Nat → Int32 := (upd f11 ((0 : Int32)).toNatClampNeg (0 : Int32))
  let v60 : Int32 := ((0 : Int32) + d0)
  let f41_1 : Nat → Int32 := (upd f41 ((1 : Int32)).toNatClampNeg v60)
  let v60_1 : Int32 := (v60 + d1)
  let f41_2 : Nat → Int32 := (upd f41_1 ((2 : Int32)).toNatClampNeg v60_1)
  let v60_2 : Int32 := (v60_1 + d2)
  let f41_3 : Nat → Int32 := (upd f41_2 ((3 : Int32)).toNatClampNeg v60_2)
  let v60_3 : Int32 := (v60_2 + d3)
  f41_3
def QDn4 (Z : State) (r0 : Addr) (d0 d1 d2 d3 : Int32) (h0 : Heap) (n0 : Nat) (v : Option Value) (h : Heap) (L : List Loc) : Prop := ∃ b : Addr, v = none ∧ Fr n0 L ∧ Keep h0 h [r0] ∧ h0.size ≤ b ∧ Exa Z h r0 "com/example/termwright/termwright/DocumentNumbers" ∧ Fld Z h r0 "com/example/termwright/termwright/DocumentNumbers" "bases" "[I" (.ref b) ∧ IA Z h b .int 4 (fB4 d0 d1 d2 d3)
theorem dn4_pn : plainName "com/example/termwright/termwright/DocumentNumbers" = true := by first | (simp [plainName, overriddenIn]; done) | decide +kernel
theorem dn4_pd0 : parseMethodDescriptor "()I" = some ⟨[], some .int⟩ := by decide +kernel
theorem dn4_pd1 : parseMethodDescriptor "(I)Ljava/lang/Object;" = some ⟨[.int], some (.object "java/lang/Object")⟩ := by decide +kernel
theorem dn4_pd2 : parseMethodDescriptor "(II)I" = some ⟨[.int, .int], some .int⟩ := by decide +kernel
theorem dn4_ef (m : MethodId) (x0 : Addr) (x1 : Addr) : entryFrame m #[(.ref x0), (.ref x1)] 5 = mkF m 0 #[.val (.ref x0), .val (.ref x1), .unset, .unset, .unset] [] := by first | (simp [entryFrame, mkF, argsToLocals, Value.category]; done) | rfl
set_option maxRecDepth 65536 in
set_option maxHeartbeats 40000000 in
theorem rm_dn4 (l : Launch) (Z : State) (a0 : Array Value) (hw : ∀ d ∈ tables_1, d.before a0 Z = true) (ws : List Jvm.Cond) (r0 : Addr) (r1 : Addr) (u0 u1 u2 : Value) (ed x0 x1 x2 x3 : Addr) (f : Nat → Value) (d0 d1 d2 d3 : Int32) (h0 : Heap) (n0 : Nat) (Z0 : n0 ≤ h0.size) (H0 : Exa Z h0 r0 "com/example/termwright/termwright/DocumentNumbers") (H1 : Fld Z h0 r0 "com/example/termwright/termwright/DocumentNumbers" "bases" "[I" u0) (H2 : Fld Z h0 r0 "com/example/termwright/termwright/DocumentNumbers" "count" "I" u1) (H3 : Fld Z h0 r0 "com/example/termwright/termwright/DocumentNumbers" "deletedCount" "I" u2) (H4 : Exa Z h0 r1 "java/util/ArrayList") (H5 : Fld Z h0 r1 "java/util/ArrayList" "size" "I" (.int (4 : Int32))) (H6 : Fld Z h0 r1 "java/util/ArrayList" "elementData" "[Ljava/lang/Object;" (.ref ed)) (H7 : RA Z h0 ed 10 f) (H8 : Exa Z h0 x0 "com/example/termwright/termwright/Commit$Segment") (H9 : Fld Z h0 x0 "com/example/termwright/termwright/Commit$Segment" "documentCount" "I" (.int d0)) (H10 : Fld Z h0 x0 "com/example/termwright/termwright/Commit$Segment" "deletions" "Lcom/example/termwright/termwright/Commit$DeletionsFile;" .null) (H11 : Exa Z h0 x1 "com/example/termwright/termwright/Commit$Segment") (H12 : Fld Z h0 x1 "com/example/termwright/termwright/Commit$Segment" "documentCount" "I" (.int d1)) (H13 : Fld Z h0 x1 "com/example/termwright/termwright/Commit$Segment" "deletions" "Lcom/example/termwright/termwright/Commit$DeletionsFile;" .null) (H14 : Exa Z h0 x2 "com/example/termwright/termwright/Commit$Segment") (H15 : Fld Z h0 x2 "com/example/termwright/termwright/Commit$Segment" "documentCount" "I" (.int d2)) (H16 : Fld Z h0 x2 "com/example/termwright/termwright/Commit$Segment" "deletions" "Lcom/example/termwright/termwright/Commit$DeletionsFile;" .null) (H17 : Exa Z h0 x3 "com/example/termwright/termwright/Commit$Segment") (H18 : Fld Z h0 x3 "com/example/termwright/termwright/Commit$Segment" "documentCount" "I" (.int d3)) (H19 : Fld Z h0 x3 "com/example/termwright/termwright/Commit$Segment" "deletions" "Lcom/example/termwright/termwright/Commit$DeletionsFile;" .null) (g_r0 : n0 ≤ r0) (n_r0_r1 : r0 ≠ r1) (n_r0_ed : r0 ≠ ed) (n_r0_x0 : r0 ≠ x0) (n_r0_x1 : r0 ≠ x1) (n_r0_x2 : r0 ≠ x2) (n_r0_x3 : r0 ≠ x3) (hf0 : f 0 = .ref x0) (hf1 : f 1 = .ref x1) (hf2 : f 2 = .ref x2) (hf3 : f 3 = .ref x3) (hs0 : NO (0 : Int32) d0) (hs1 : NO ((0 : Int32) + d0) d1) (hs2 : NO (((0 : Int32) + d0) + d1) d2) (hs3 : NO ((((0 : Int32) + d0) + d1) + d2) d3) :
    MetFree l (⟨"com/example/termwright/termwright/DocumentNumbers", "<init>", "(Ljava/util/List;)V"⟩ : MethodName) (head1 (Jvm.Cond.code (⟨"com/example/termwright/termwright/DocumentNumbers", "<init>", "(Ljava/util/List;)V"⟩ : MethodName) prog_33_method_1_code 5 none :: ws) ({ frames := 3, cells := 1, slots := 4, locals := 41 } : Room)) (fun a U => a = #[(.ref r0), (.ref r1)] ∧ Z.Warmed39 U.vm ∧ U.heap = h0) (fun _ _ _ _ _ => True) (fun _ U o U' => ∃ v L, o = .returned v ∧ QDn4 Z r0 d0 d1 d2 d3 h0 n0 v U'.heap L ∧ FrameEnd U o U' L ({ frames := 3, cells := 1, slots := 4, locals := 41 } : Room).cells ({ frames := 3, cells := 1, slots := 4, locals := 41 } : Room).slots) := by
  refine MetFree.of_bodySF (plainFor_of_name dn4_pn) hisR ?_
  intro p e s m args below meth c s₁ Bd hml0 hP hK
  obtain ⟨rfl, hZ, hh⟩ := hP
  have hx := Bd.exec
  have hby := Bd.bytes
  have hml : c.maxLocals = 5 := hml0
  have hown : s.vm.findClass "com/example/termwright/termwright/DocumentNumbers" = some m.cls := findClass_of_methodNamed Bd.named
  have hnm := (name_of_methodNamed Bd.named Bd.method).1
  have X0 : Stand p l e ({ frames := 3, cells := 1, slots := 4, locals := 41 } : Room) s m #[(.ref r0), (.ref r1)] below meth c s₁ [] 0 0 := Stand.of_body Bd
  have e0 : s₁.heap = h0 := by rw [← hh, Bd.state]; rfl
  have N0 := Fr.nil n0
  obtain ⟨P0, hP0⟩ : ∃ P0 : State → Prop, P0 = fun t => Steps p.tables e below (s₁.setTop (entryFrame m #[(.ref r0), (.ref r1)] 5)) t := ⟨_, rfl⟩
  have K0 : ∀ t, Steps p.tables e below (s₁.setTop (mkF m 0 #[.val (.ref r0), .val (.ref r1), .unset, .unset, .unset] [])) t → P0 t := by
    intro t k; rw [hP0]; exact castTop (dn4_ef m r0 r1) k
  obtain ⟨T1, X1, e1, st1⟩ := initO X0 hx hZ hown (hw _ (gw 33 rfl)) (hw _ (gw 20 rfl)) (hw _ (gw 21 rfl)) e0 (g := (mkF m 1 #[.val (.ref r0), .val (.ref r1), .unset, .unset, .unset] [(.ref r0)])) rfl (by rw [hml]; rfl) rfl (hb hby dn_d1) (by decide) (W := 0) (by show 2 * 0 + _ ≤ _; exact Nat.le_of_eq rfl) (by decide)
  obtain ⟨cq2, kq2, q2a, q2b, q2c⟩ := isOf hZ e1 H4
  obtain ⟨_, _, ⟨T2, L2, k2, n2⟩, -, X2, ⟨Lc2, hQ2, l2, y2, z2⟩, st2⟩ := X1.interfaceBack hx (xi := (⟨"java/util/List", "size", "()I"⟩ : MethodName)) (y := (⟨"java/util/ArrayList", "size", "()I"⟩ : MethodName)) hown (mvT hZ (hw _ (gw 34 rfl))) (mvT hZ (hw _ (gw 35 rfl))) (mvT hZ (hw _ (gw 36 rfl))) (mvT hZ (hw _ (gw 37 rfl))) (mvT hZ (hw _ (gw 38 rfl))) (mvT hZ (hw _ (gw 39 rfl))) (mvT hZ (hw _ (gw 40 rfl))) (mvT hZ (hw _ (gw 41 rfl))) (by decide) (backOf (W := 1) (rm_siz l Z a0 hw [] r1 (4 : Int32) h0 n0 Z0 H5) hZ (hw _ (gw 42 rfl)) (hw _ (gw 3 rfl)) (by decide) (by decide)) q2a q2b q2c (g := (mkF m 6 #[.val (.ref r0), .val (.ref r1), .unset, .unset, .unset] [(.ref r1), (.ref r0)])) rfl (by rw [hml]; rfl) (Steps.refl _) (argsL := []) (rest := [(.ref r0)]) (lenOf dn4_pd0 rfl) rfl (by show 2 * 0 + _ ≤ _; exact Nat.le_of_eq rfl) (hb hby dn_d6) (fun _ _ => ⟨rfl, e1, (by decide : 0 + 0 ≤ _), (by decide : 0 + 0 ≤ _)⟩)
  dsimp only [Pt.U, Pt.locs, Pt.cells, Pt.slots] at X2 l2 y2 z2 st2 hQ2
  rw [l2, y2, z2] at X2
  obtain ⟨rfl, N2q, e2⟩ := hQ2
  have N2 := Fr.app N0 N2q
  obtain ⟨T3, h3, k3, X3, e3, E3, A3, st3⟩ := newP X2 hx hZ (hw _ (gw 45 rfl)) e2 (g := (mkF m 11 #[.val (.ref r0), .val (.ref r1), .unset, .unset, .unset] [(.int (4 : Int32)), (.ref r0)])) rfl (hb hby dn_d11) rfl (by decide) (cap := 4) (by decide) (by decide) (by decide) (by decide)
  obtain ⟨b11, g3⟩ : ∃ z, z = h0.size := ⟨_, rfl⟩
  have g_b11 : n0 ≤ b11 := Nat.le_trans Z0 (Nat.le_of_eq g3.symm)
  have ne_r0_b11 : r0 ≠ b11 := Nat.ne_of_lt (Nat.lt_of_lt_of_le H0.lt (Nat.le_of_eq g3.symm))
  have ne_r1_b11 : r1 ≠ b11 := Nat.ne_of_lt (Nat.lt_of_lt_of_le H4.lt (Nat.le_of_eq g3.symm))
  have ne_ed_b11 : ed ≠ b11 := Nat.ne_of_lt (Nat.lt_of_lt_of_le H7.lt (Nat.le_of_eq g3.symm))
  have ne_x0_b11 : x0 ≠ b11 := Nat.ne_of_lt (Nat.lt_of_lt_of_le H8.lt (Nat.le_of_eq g3.symm))
  have ne_x1_b11 : x1 ≠ b11 := Nat.ne_of_lt (Nat.lt_of_lt_of_le H11.lt (Nat.le_of_eq g3.symm))
  have ne_x2_b11 : x2 ≠ b11 := Nat.ne_of_lt (Nat.lt_of_lt_of_le H14.lt (Nat.le_of_eq g3.symm))
  have ne_x3_b11 : x3 ≠ b11 := Nat.ne_of_lt (Nat.lt_of_lt_of_le H17.lt (Nat.le_of_eq g3.symm))
  rw [← g3] at A3 st3
  have sz_b11 : h0.size ≤ b11 := Nat.le_trans (Keep.refl h0 [r0]).1 (Nat.le_of_eq g3.symm)
  have Z3 : n0 ≤ h3.size := Nat.le_trans Z0 E3.1
  have F4 := Exa.ext E3 H0
  have F5 := Fld.ext E3 H1
  have F6 := Fld.ext E3 H2
  have F7 := Fld.ext E3 H3
  have F8 := Exa.ext E3 H4
  have F9 := Fld.ext E3 H5
  have F10 := Fld.ext E3 H6
  have F11 := H7.ext E3
  have F12 := Exa.ext E3 H8
  have F13 := Fld.ext E3 H9
  have F14 := Fld.ext E3 H10
  have F15 := Exa.ext E3 H11
  have F16 := Fld.ext E3 H12
  have F17 := Fld.ext E3 H13
  have F18 := Exa.ext E3 H14
  have F19 := Fld.ext E3 H15
  have F20 := Fld.ext E3 H16
  have F21 := Exa.ext E3 H17
  have F22 := Fld.ext E3 H18
  have F23 := Fld.ext E3 H19
  obtain ⟨f11, hf11, V3⟩ : ∃ f11 : Nat → Int32, f11 = (fun _ => 0) ∧ IA Z h3 b11 .int 4 f11 := ⟨_, rfl, IA.new A3 rfl rfl (by decide)⟩
  have Kp3 : Keep h0 h3 [r0] := (Keep.refl h0 [r0]).ext E3
  obtain ⟨T24, h24, X24, e24, W24, st24⟩ := putF X3 hx hZ hown (host := "") (Or.inl (hw _ (gw 46 rfl))) Via.refl e3 F5 F4 (Or.inr ⟨(hw _ (gw 47 rfl)), rfl, hnm⟩) (hw _ (gw 28 rfl)) (ty := (.array .int)) (by decide) rfl rfl (g := (mkF m 13 #[.val (.ref r0), .val (.ref r1), .unset, .unset, .unset] [(.ref b11), (.ref r0)])) rfl rfl (hb hby dn_d13)
  have Z24 : n0 ≤ h24.size := Nat.le_trans Z3 (Keep.of_wr W24).1
  have N24 := Fr.snoc X24 N2 g_r0
  have F25 := Exa.wr W24 F4
  have F26 := Fld.other W24 F6 (Or.inr (slot_ne (Or.inr (hw _ (gw 49 rfl))) (Or.inr (hw _ (gw 47 rfl))) (by decide) (t := .int) (t' := (.array .int)) (by decide) (by decide)))
  have F27 := Fld.other W24 F7 (Or.inr (slot_ne (Or.inr (hw _ (gw 51 rfl))) (Or.inr (hw _ (gw 47 rfl))) (by decide) (t := .int) (t' := (.array .int)) (by decide) (by decide)))
  have F28 := Exa.wr W24 F8
  have F29 := Fld.other W24 F9 (Or.inl (Ne.symm n_r0_r1))
  have F30 := Fld.other W24 F10 (Or.inl (Ne.symm n_r0_r1))
  have F31 := F11.other W24 (Ne.symm n_r0_ed)
  have F32 := Exa.wr W24 F12
  have F33 := Fld.other W24 F13 (Or.inl (Ne.symm n_r0_x0))
  have F34 := Fld.other W24 F14 (Or.inl (Ne.symm n_r0_x0))
  have F35 := Exa.wr W24 F15
  have F36 := Fld.other W24 F16 (Or.inl (Ne.symm n_r0_x1))
  have F37 := Fld.other W24 F17 (Or.inl (Ne.symm n_r0_x1))
  have F38 := Exa.wr W24 F18
  have F39 := Fld.other W24 F19 (Or.inl (Ne.symm n_r0_x2))
  have F40 := Fld.other W24 F20 (Or.inl (Ne.symm n_r0_x2))
  have F41 := Exa.wr W24 F21
  have F42 := Fld.other W24 F22 (Or.inl (Ne.symm n_r0_x3))
  have F43 := Fld.other W24 F23 (Or.inl (Ne.symm n_r0_x3))
  have F44 := V3.other W24 (Ne.symm ne_r0_b11)
  have Kp24 : Keep h0 h24 [r0] := Kp3.wr W24 (Or.inl (List.mem_of_getElem? (i := 0) rfl))
  have F45 : Fld Z h24 r0 "com/example/termwright/termwright/DocumentNumbers" "bases" "[I" (.ref b11) := Fld.same W24 F5
  obtain ⟨cq46, kq46, q46a, q46b, q46c⟩ := isOf hZ e24 F28
  obtain ⟨_, _, ⟨T46, L46, k46, n46⟩, -, X46, ⟨Lc46, hQ46, l46, y46, z46⟩, st46⟩ := X24.interfaceBack hx (xi := (⟨"java/util/List", "size", "()I"⟩ : MethodName)) (y := (⟨"java/util/ArrayList", "size", "()I"⟩ : MethodName)) hown (mvT hZ (hw _ (gw 34 rfl))) (mvT hZ (hw _ (gw 35 rfl))) (mvT hZ (hw _ (gw 36 rfl))) (mvT hZ (hw _ (gw 37 rfl))) (mvT hZ (hw _ (gw 38 rfl))) (mvT hZ (hw _ (gw 39 rfl))) (mvT hZ (hw _ (gw 40 rfl))) (mvT hZ (hw _ (gw 41 rfl))) (by decide) (backOf (W := 1) (rm_siz l Z a0 hw [] r1 (4 : Int32) h24 n0 Z24 F29) hZ (hw _ (gw 42 rfl)) (hw _ (gw 3 rfl)) (by decide) (by decide)) q46a q46b q46c (g := (mkF m 26 #[.val (.ref r0), .val (.ref r1), .val (.int (0 : Int32)), .val (.int (0 : Int32)), .val (.int (0 : Int32))] [(.ref r1), (.int (0 : Int32))])) rfl (by rw [hml]; rfl) (Steps.refl _) (argsL := []) (rest := [(.int (0 : Int32))]) (lenOf dn4_pd0 rfl) rfl (by show 2 * 0 + _ ≤ _; exact Nat.le_of_eq rfl) (hb hby dn_d26) (fun _ _ => ⟨rfl, e24, (by decide : 1 + 0 ≤ _), (by decide : 4 + 0 ≤ _)⟩)
  dsimp only [Pt.U, Pt.locs, Pt.cells, Pt.slots] at X46 l46 y46 z46 st46 hQ46
  rw [l46, y46, z46] at X46
  obtain ⟨rfl, N46q, e46⟩ := hQ46
  have N46 := Fr.app N24 N46q
  obtain ⟨T47, X47, e47, st47⟩ := getF X46 hx hZ hown (host := "") (Or.inl (hw _ (gw 46 rfl))) Via.refl e46 F45 (g := (mkF m 35 #[.val (.ref r0), .val (.ref r1), .val (.int (0 : Int32)), .val (.int (0 : Int32)), .val (.int (0 : Int32))] [(.ref r0)])) rfl rfl (hb hby dn_d35)
  obtain ⟨T48, h48, X48, e48, ⟨sl48, vv48, W48⟩, V48, st48⟩ := stIA X47 hx hZ e47 F44 (j := (0 : Int32)) (x := (0 : Int32)) (by decide) (g := (mkF m 41 #[.val (.ref r0), .val (.ref r1), .val (.int (0 : Int32)), .val (.int (0 : Int32)), .val (.int (0 : Int32))] [(.int (0 : Int32)), (.int (0 : Int32)), (.ref b11)])) rfl rfl (hb hby dn_d41)
  have Z48 : n0 ≤ h48.size := Nat.le_trans Z24 (Keep.of_wr W48).1
  have N48 := Fr.snoc X48 N46 g_b11
  have F49 := Exa.wr W48 F25
  have F50 := Fld.other W48 F45 (Or.inl ne_r0_b11)
  have F51 := Fld.other W48 F26 (Or.inl ne_r0_b11)
  have F52 := Fld.other W48 F27 (Or.inl ne_r0_b11)
  have F53 := Exa.wr W48 F28
  have F54 := Fld.other W48 F29 (Or.inl ne_r1_b11)
  have F55 := Fld.other W48 F30 (Or.inl ne_r1_b11)
  have F56 := F31.other W48 ne_ed_b11
  have F57 := Exa.wr W48 F32
  have F58 := Fld.other W48 F33 (Or.inl ne_x0_b11)
  have F59 := Fld.other W48 F34 (Or.inl ne_x0_b11)
  have F60 := Exa.wr W48 F35
  have F61 := Fld.other W48 F36 (Or.inl ne_x1_b11)
  have F62 := Fld.other W48 F37 (Or.inl ne_x1_b11)
  have F63 := Exa.wr W48 F38
  have F64 := Fld.other W48 F39 (Or.inl ne_x2_b11)
  have F65 := Fld.other W48 F40 (Or.inl ne_x2_b11)
  have F66 := Exa.wr W48 F41
  have F67 := Fld.other W48 F42 (Or.inl ne_x3_b11)
  have F68 := Fld.other W48 F43 (Or.inl ne_x3_b11)
  have Kp48 : Keep h0 h48 [r0] := Kp24.wr W48 (Or.inr sz_b11)
  obtain ⟨f41, hf41, V48'⟩ : ∃ f41 : Nat → Int32, f41 = (upd f11 ((0 : Int32)).toNatClampNeg (0 : Int32)) ∧ IA Z h48 b11 .int 4 f41 := ⟨_, rfl, V48⟩
  obtain ⟨cq69, kq69, q69a, q69b, q69c⟩ := isOf hZ e48 F53
  obtain ⟨_, _, ⟨T69, L69, k69, n69⟩, -, X69, ⟨Lc69, hQ69, l69, y69, z69⟩, st69⟩ := X48.interfaceBack hx (xi := (⟨"java/util/List", "get", "(I)Ljava/lang/Object;"⟩ : MethodName)) (y := (⟨"java/util/ArrayList", "get", "(I)Ljava/lang/Object;"⟩ : MethodName)) hown (mvT hZ (hw _ (gw 119 rfl))) (mvT hZ (hw _ (gw 120 rfl))) (mvT hZ (hw _ (gw 121 rfl))) (mvT hZ (hw _ (gw 122 rfl))) (mvT hZ (hw _ (gw 123 rfl))) (mvT hZ (hw _ (gw 124 rfl))) (mvT hZ (hw _ (gw 125 rfl))) (mvT hZ (hw _ (gw 41 rfl))) (by decide) (backOf (W := 1) (rm_get l Z a0 hw [] r1 (0 : Int32) (4 : Int32) ed x0 f h48 n0 Z48 F53 F55 F56 F54 (by decide) hf0 (by decide) (by decide)) hZ (hw _ (gw 126 rfl)) (hw _ (gw 3 rfl)) (by decide) (by decide)) q69a q69b q69c (g := (mkF m 46 #[.val (.ref r0), .val (.ref r1), .val (.int (0 : Int32)), .val (.int (0 : Int32)), .val (.int (0 : Int32))] [(.int (0 : Int32)), (.ref r1), (.int (0 : Int32))])) rfl (by rw [hml]; rfl) (Steps.refl _) (argsL := [(.int (0 : Int32))]) (rest := [(.int (0 : Int32))]) (lenOf dn4_pd1 rfl) rfl (by show 2 * 0 + _ ≤ _; exact Nat.le_of_eq rfl) (hb hby dn_d46) (fun _ _ => ⟨rfl, e48, (by decide : 1 + 0 ≤ _), (by decide : 4 + 0 ≤ _)⟩)
  dsimp only [Pt.U, Pt.locs, Pt.cells, Pt.slots] at X69 l69 y69 z69 st69 hQ69
  rw [l69, y69, z69] at X69
  obtain ⟨rfl, N69q, e69⟩ := hQ69
  have N69 := Fr.app N48 N69q
  obtain ⟨T70, X70, e70, st70⟩ := castY X69 hx hZ hown (hw _ (gw 140 rfl)) e69 (Ins.self F57) (g := (mkF m 51 #[.val (.ref r0), .val (.ref r1), .val (.int (0 : Int32)), .val (.int (0 : Int32)), .val (.int (0 : Int32))] [(.ref x0), (.int (0 : Int32))])) rfl rfl (hb hby dn_d51)
  obtain ⟨cq71, kq71, q71a, q71b, q71c⟩ := isOf hZ e70 F57
  obtain ⟨_, _, ⟨T71, L71, k71, n71⟩, -, X71, ⟨Lc71, hQ71, l71, y71, z71⟩, st71⟩ := X70.virtualBack hx (y := (⟨"com/example/termwright/termwright/Commit$Segment", "documentCount", "()I"⟩ : MethodName)) (z := (⟨"com/example/termwright/termwright/Commit$Segment", "documentCount", "()I"⟩ : MethodName)) hown (mvT hZ (hw _ (gw 142 rfl))) (mvT hZ (hw _ (gw 143 rfl))) (notFace_of_selects (args := #[]) (mvT hZ (hw _ (gw 145 rfl)))) (mvT hZ (hw _ (gw 145 rfl))) (mvT hZ (hw _ (gw 144 rfl))) (by decide) (backOf (W := 1) (rm_dcn l Z a0 hw [] x0 d0 h48 n0 Z48 F58) hZ (hw _ (gw 146 rfl)) (hw _ (gw 59 rfl)) (by decide) (by decide)) q71a q71c (g := (mkF m 54 #[.val (.ref r0), .val (.ref r1), .val (.int (0 : Int32)), .val (.int (0 : Int32)), .val (.int (0 : Int32))] [(.ref x0), (.int (0 : Int32))])) rfl (by rw [hml]; rfl) (Steps.refl _) (argsL := []) (rest := [(.int (0 : Int32))]) (lenOf dn4_pd0 rfl) rfl (by show 2 * 0 + _ ≤ _; exact Nat.le_of_eq rfl) (hb hby dn_d54) (fun _ _ => ⟨rfl, e70, (by decide : 1 + 0 ≤ _), (by decide : 4 + 0 ≤ _)⟩)
  dsimp only [Pt.U, Pt.locs, Pt.cells, Pt.slots] at X71 l71 y71 z71 st71 hQ71
  rw [l71, y71, z71] at X71
  obtain ⟨rfl, N71q, e71⟩ := hQ71
  have N71 := Fr.app N69 N71q
  obtain ⟨_, _, ⟨T72, L72, k72, n72⟩, -, X72, ⟨Lc72, hQ72, l72, y72, z72⟩, st72⟩ := Jvm.LawKit.callS X71 hx (y := (⟨"java/lang/Math", "addExact", "(II)I"⟩ : MethodName)) hown (mvT hZ (hw _ (gw 147 rfl))) (mvT hZ (hw _ (gw 148 rfl))) (mvT hZ (hw _ (gw 114 rfl))) (mvT hZ (hw _ (gw 149 rfl))) (by decide) (backOf (W := 0) (rm_adx l Z a0 hw [] (0 : Int32) d0 h48 n0 Z48 hs0) hZ (hw _ (gw 149 rfl)) (hw _ (gw 114 rfl)) (by decide) (by decide)) (g := (mkF m 57 #[.val (.ref r0), .val (.ref r1), .val (.int (0 : Int32)), .val (.int (0 : Int32)), .val (.int (0 : Int32))] [(.int d0), (.int (0 : Int32))])) rfl (by rw [hml]; rfl) (argsL := [(.int (0 : Int32)), (.int d0)]) (rest := []) (lenOf dn4_pd2 rfl) rfl (by show 2 * 0 + _ ≤ _; exact Nat.le_of_eq rfl) (hb hby dn_d57) (fun _ _ => ⟨rfl, e71, (by decide : 1 + 0 ≤ _), (by decide : 4 + 0 ≤ _)⟩)
  dsimp only [Pt.U, Pt.locs, Pt.cells, Pt.slots] at X72 l72 y72 z72 st72 hQ72
  rw [l72, y72, z72] at X72
  obtain ⟨rfl, N72q, e72⟩ := hQ72
  have N72 := Fr.app N71 N72q
  have K73 : ∀ t, Steps p.tables e below (T72.setTop (mkF m 61 #[.val (.ref r0), .val (.ref r1), .val (.int ((0 : Int32) + d0)), .val (.int (0 : Int32)), .val (.int (0 : Int32))] [])) t → P0 t := by
    intro t kt
    refine K0 t ?_
    refine XS.aloadN X0.here hx rfl (hb hby dn_d0) rfl rfl ?_
    show Steps p.tables e below (s₁.setTop (mkF m 1 #[.val (.ref r0), .val (.ref r1), .unset, .unset, .unset] [(.ref r0)])) t
    refine st1 _ ?_
    refine XS.aloadN X1.here hx rfl (hb hby dn_d4) rfl rfl ?_
    refine XS.aloadN X1.here hx rfl (hb hby dn_d5) rfl rfl ?_
    show Steps p.tables e below (T1.setTop (mkF m 6 #[.val (.ref r0), .val (.ref r1), .unset, .unset, .unset] [(.ref r1), (.ref r0)])) t
    refine st2.trans ?_
    show Steps p.tables e below (T2.setTop (mkF m 11 #[.val (.ref r0), .val (.ref r1), .unset, .unset, .unset] [(.int (4 : Int32)), (.ref r0)])) t
    refine st3 _ ?_
    show Steps p.tables e below (T3.setTop (mkF m 13 #[.val (.ref r0), .val (.ref r1), .unset, .unset, .unset] [(.ref b11), (.ref r0)])) t
    refine st24 _ ?_
    refine XS.iconst X24.here hx rfl (hb hby dn_d16) ?_
    show Steps p.tables e below (T24.setTop (mkF m 17 #[.val (.ref r0), .val (.ref r1), .unset, .unset, .unset] [(.int (0 : Int32))])) t
    refine XS.istoreN X24.here hx rfl (hb hby dn_d17) rfl (l' := #[.val (.ref r0), .val (.ref r1), .val (.int (0 : Int32)), .unset, .unset]) rfl ?_
    refine XS.iconst X24.here hx rfl (hb hby dn_d18) ?_
    show Steps p.tables e below (T24.setTop (mkF m 19 #[.val (.ref r0), .val (.ref r1), .val (.int (0 : Int32)), .unset, .unset] [(.int (0 : Int32))])) t
    refine XS.istoreN X24.here hx rfl (hb hby dn_d19) rfl (l' := #[.val (.ref r0), .val (.ref r1), .val (.int (0 : Int32)), .val (.int (0 : Int32)), .unset]) rfl ?_
    refine XS.iconst X24.here hx rfl (hb hby dn_d20) ?_
    show Steps p.tables e below (T24.setTop (mkF m 21 #[.val (.ref r0), .val (.ref r1), .val (.int (0 : Int32)), .val (.int (0 : Int32)), .unset] [(.int (0 : Int32))])) t
    refine XS.istore X24.here hx rfl (hb hby dn_d21) rfl (l' := #[.val (.ref r0), .val (.ref r1), .val (.int (0 : Int32)), .val (.int (0 : Int32)), .val (.int (0 : Int32))]) rfl ?_
    refine XS.iload X24.here hx rfl (hb hby dn_d23) rfl ?_
    refine XS.aloadN X24.here hx rfl (hb hby dn_d25) rfl rfl ?_
    show Steps p.tables e below (T24.setTop (mkF m 26 #[.val (.ref r0), .val (.ref r1), .val (.int (0 : Int32)), .val (.int (0 : Int32)), .val (.int (0 : Int32))] [(.ref r1), (.int (0 : Int32))])) t
    refine st46.trans ?_
    show Steps p.tables e below (T46.setTop (mkF m 31 #[.val (.ref r0), .val (.ref r1), .val (.int (0 : Int32)), .val (.int (0 : Int32)), .val (.int (0 : Int32))] [(.int (4 : Int32)), (.int (0 : Int32))])) t
    refine XS.icmpNo X46.here hx rfl (hb hby dn_d31) rfl (tlt (by decide)).2.1 ?_
    refine XS.aloadN X46.here hx rfl (hb hby dn_d34) rfl rfl ?_
    show Steps p.tables e below (T46.setTop (mkF m 35 #[.val (.ref r0), .val (.ref r1), .val (.int (0 : Int32)), .val (.int (0 : Int32)), .val (.int (0 : Int32))] [(.ref r0)])) t
    refine st47 _ ?_
    refine XS.iload X47.here hx rfl (hb hby dn_d38) rfl ?_
    refine XS.iloadN X47.here hx rfl (hb hby dn_d40) rfl ?_
    show Steps p.tables e below (T47.setTop (mkF m 41 #[.val (.ref r0), .val (.ref r1), .val (.int (0 : Int32)), .val (.int (0 : Int32)), .val (.int (0 : Int32))] [(.int (0 : Int32)), (.int (0 : Int32)), (.ref b11)])) t
    refine st48 _ ?_
    refine XS.iloadN X48.here hx rfl (hb hby dn_d42) rfl ?_
    refine XS.aloadN X48.here hx rfl (hb hby dn_d43) rfl rfl ?_
    refine XS.iload X48.here hx rfl (hb hby dn_d44) rfl ?_
    show Steps p.tables e below (T48.setTop (mkF m 46 #[.val (.ref r0), .val (.ref r1), .val (.int (0 : Int32)), .val (.int (0 : Int32)), .val (.int (0 : Int32))] [(.int (0 : Int32)), (.ref r1), (.int (0 : Int32))])) t
    refine st69.trans ?_
    show Steps p.tables e below (T69.setTop (mkF m 51 #[.val (.ref r0), .val (.ref r1), .val (.int (0 : Int32)), .val (.int (0 : Int32)), .val (.int (0 : Int32))] [(.ref x0), (.int (0 : Int32))])) t
    refine st70 _ ?_
    show Steps p.tables e below (T70.setTop (mkF m 54 #[.val (.ref r0), .val (.ref r1), .val (.int (0 : Int32)), .val (.int (0 : Int32)), .val (.int (0 : Int32))] [(.ref x0), (.int (0 : Int32))])) t
    refine st71.trans ?_
    show Steps p.tables e below (T71.setTop (mkF m 57 #[.val (.ref r0), .val (.ref r1), .val (.int (0 : Int32)), .val (.int (0 : Int32)), .val (.int (0 : Int32))] [(.int d0), (.int (0 : Int32))])) t
    refine st72 _ ?_
    show Steps p.tables e below (T72.setTop (mkF m 60 #[.val (.ref r0), .val (.ref r1), .val (.int (0 : Int32)), .val (.int (0 : Int32)), .val (.int (0 : Int32))] [(.int ((0 : Int32) + d0))])) t
    refine XS.istoreN X72.here hx rfl (hb hby dn_d60) rfl (l' := #[.val (.ref r0), .val (.ref r1), .val (.int ((0 : Int32) + d0)), .val (.int (0 : Int32)), .val (.int (0 : Int32))]) rfl ?_
    exact kt
  obtain ⟨v60, hv60, K74⟩ : ∃ v60 : Int32, v60 = ((0 : Int32) + d0) ∧ ∀ t, Steps p.tables e below (T72.setTop (mkF m 61 #[.val (.ref r0), .val (.ref r1), .val (.int v60), .val (.int (0 : Int32)), .val (.int (0 : Int32))] [])) t → P0 t := ⟨_, rfl, K73⟩
  obtain ⟨cq75, kq75, q75a, q75b, q75c⟩ := isOf hZ e72 F53
  obtain ⟨_, _, ⟨T75, L75, k75, n75⟩, -, X75, ⟨Lc75, hQ75, l75, y75, z75⟩, st75⟩ := X72.interfaceBack hx (xi := (⟨"java/util/List", "get", "(I)Ljava/lang/Object;"⟩ : MethodName)) (y := (⟨"java/util/ArrayList", "get", "(I)Ljava/lang/Object;"⟩ : MethodName)) hown (mvT hZ (hw _ (gw 119 rfl))) (mvT hZ (hw _ (gw 120 rfl))) (mvT hZ (hw _ (gw 121 rfl))) (mvT hZ (hw _ (gw 122 rfl))) (mvT hZ (hw _ (gw 123 rfl))) (mvT hZ (hw _ (gw 124 rfl))) (mvT hZ (hw _ (gw 125 rfl))) (mvT hZ (hw _ (gw 41 rfl))) (by decide) (backOf (W := 1) (rm_get l Z a0 hw [] r1 (0 : Int32) (4 : Int32) ed x0 f h48 n0 Z48 F53 F55 F56 F54 (by decide) hf0 (by decide) (by decide)) hZ (hw _ (gw 126 rfl)) (hw _ (gw 3 rfl)) (by decide) (by decide)) q75a q75b q75c (g := (mkF m 65 #[.val (.ref r0), .val (.ref r1), .val (.int v60), .val (.int (0 : Int32)), .val (.int (0 : Int32))] [(.int (0 : Int32)), (.ref r1), (.int (0 : Int32))])) rfl (by rw [hml]; rfl) (Steps.refl _) (argsL := [(.int (0 : Int32))]) (rest := [(.int (0 : Int32))]) (lenOf dn4_pd1 rfl) rfl (by show 2 * 0 + _ ≤ _; exact Nat.le_of_eq rfl) (hb hby dn_d65) (fun _ _ => ⟨rfl, e72, (by decide : 1 + 0 ≤ _), (by decide : 4 + 0 ≤ _)⟩)
  dsimp only [Pt.U, Pt.locs, Pt.cells, Pt.slots] at X75 l75 y75 z75 st75 hQ75
  rw [l75, y75, z75] at X75
  obtain ⟨rfl, N75q, e75⟩ := hQ75
  have N75 := Fr.app N72 N75q
  obtain ⟨T76, X76, e76, st76⟩ := castY X75 hx hZ hown (hw _ (gw 140 rfl)) e75 (Ins.self F57) (g := (mkF m 70 #[.val (.ref r0), .val (.ref r1), .val (.int v60), .val (.int (0 : Int32)), .val (.int (0 : Int32))] [(.ref x0), (.int (0 : Int32))])) rfl rfl (hb hby dn_d70)
  obtain ⟨cq77, kq77, q77a, q77b, q77c⟩ := isOf hZ e76 F57
  obtain ⟨_, _, ⟨T77, L77, k77, n77⟩, -, X77, ⟨Lc77, hQ77, l77, y77, z77⟩, st77⟩ := X76.virtualBack hx (y := (⟨"com/example/termwright/termwright/Commit$Segment", "deletedCount", "()I"⟩ : MethodName)) (z := (⟨"com/example/termwright/termwright/Commit$Segment", "deletedCount", "()I"⟩ : MethodName)) hown (mvT hZ (hw _ (gw 150 rfl))) (mvT hZ (hw _ (gw 151 rfl))) (notFace_of_selects (args := #[]) (mvT hZ (hw _ (gw 153 rfl)))) (mvT hZ (hw _ (gw 153 rfl))) (mvT hZ (hw _ (gw 152 rfl))) (by decide) (backOf (W := 1) (rm_dlc l Z a0 hw [] x0 h48 n0 Z48 F59) hZ (hw _ (gw 154 rfl)) (hw _ (gw 59 rfl)) (by decide) (by decide)) q77a q77c (g := (mkF m 73 #[.val (.ref r0), .val (.ref r1), .val (.int v60), .val (.int (0 : Int32)), .val (.int (0 : Int32))] [(.ref x0), (.int (0 : Int32))])) rfl (by rw [hml]; rfl) (Steps.refl _) (argsL := []) (rest := [(.int (0 : Int32))]) (lenOf dn4_pd0 rfl) rfl (by show 2 * 0 + _ ≤ _; exact Nat.le_of_eq rfl) (hb hby dn_d73) (fun _ _ => ⟨rfl, e76, (by decide : 1 + 0 ≤ _), (by decide : 4 + 0 ≤ _)⟩)
  dsimp only [Pt.U, Pt.locs, Pt.cells, Pt.slots] at X77 l77 y77 z77 st77 hQ77
  rw [l77, y77, z77] at X77
  obtain ⟨rfl, N77q, e77⟩ := hQ77
  have N77 := Fr.app N75 N77q
  obtain ⟨cq78, kq78, q78a, q78b, q78c⟩ := isOf hZ e77 F53
  obtain ⟨_, _, ⟨T78, L78, k78, n78⟩, -, X78, ⟨Lc78, hQ78, l78, y78, z78⟩, st78⟩ := X77.interfaceBack hx (xi := (⟨"java/util/List", "size", "()I"⟩ : MethodName)) (y := (⟨"java/util/ArrayList", "size", "()I"⟩ : MethodName)) hown (mvT hZ (hw _ (gw 34 rfl))) (mvT hZ (hw _ (gw 35 rfl))) (mvT hZ (hw _ (gw 36 rfl))) (mvT hZ (hw _ (gw 37 rfl))) (mvT hZ (hw _ (gw 38 rfl))) (mvT hZ (hw _ (gw 39 rfl))) (mvT hZ (hw _ (gw 40 rfl))) (mvT hZ (hw _ (gw 41 rfl))) (by decide) (backOf (W := 1) (rm_siz l Z a0 hw [] r1 (4 : Int32) h48 n0 Z48 F54) hZ (hw _ (gw 42 rfl)) (hw _ (gw 3 rfl)) (by decide) (by decide)) q78a q78b q78c (g := (mkF m 26 #[.val (.ref r0), .val (.ref r1), .val (.int v60), .val (.int (0 : Int32)), .val (.int (1 : Int32))] [(.ref r1), (.int (1 : Int32))])) rfl (by rw [hml]; rfl) (Steps.refl _) (argsL := []) (rest := [(.int (1 : Int32))]) (lenOf dn4_pd0 rfl) rfl (by show 2 * 0 + _ ≤ _; exact Nat.le_of_eq rfl) (hb hby dn_d26) (fun _ _ => ⟨rfl, e77, (by decide : 1 + 0 ≤ _), (by decide : 4 + 0 ≤ _)⟩)
  dsimp only [Pt.U, Pt.locs, Pt.cells, Pt.slots] at X78 l78 y78 z78 st78 hQ78
  rw [l78, y78, z78] at X78
  obtain ⟨rfl, N78q, e78⟩ := hQ78
  have N78 := Fr.app N77 N78q
  obtain ⟨T79, X79, e79, st79⟩ := getF X78 hx hZ hown (host := "") (Or.inl (hw _ (gw 46 rfl))) Via.refl e78 F50 (g := (mkF m 35 #[.val (.ref r0), .val (.ref r1), .val (.int v60), .val (.int (0 : Int32)), .val (.int (1 : Int32))] [(.ref r0)])) rfl rfl (hb hby dn_d35)
  obtain ⟨T80, h80, X80, e80, ⟨sl80, vv80, W80⟩, V80, st80⟩ := stIA X79 hx hZ e79 V48' (j := (1 : Int32)) (x := v60) (by decide) (g := (mkF m 41 #[.val (.ref r0), .val (.ref r1), .val (.int v60), .val (.int (0 : Int32)), .val (.int (1 : Int32))] [(.int v60), (.int (1 : Int32)), (.ref b11)])) rfl rfl (hb hby dn_d41)
  have Z80 : n0 ≤ h80.size := Nat.le_trans Z48 (Keep.of_wr W80).1
  have N80 := Fr.snoc X80 N78 g_b11
  have F81 := Exa.wr W80 F49
  have F82 := Fld.other W80 F50 (Or.inl ne_r0_b11)
  have F83 := Fld.other W80 F51 (Or.inl ne_r0_b11)
  have F84 := Fld.other W80 F52 (Or.inl ne_r0_b11)
  have F85 := Exa.wr W80 F53
  have F86 := Fld.other W80 F54 (Or.inl ne_r1_b11)
  have F87 := Fld.other W80 F55 (Or.inl ne_r1_b11)
  have F88 := F56.other W80 ne_ed_b11
  have F89 := Exa.wr W80 F57
  have F90 := Fld.other W80 F58 (Or.inl ne_x0_b11)
  have F91 := Fld.other W80 F59 (Or.inl ne_x0_b11)
  have F92 := Exa.wr W80 F60
  have F93 := Fld.other W80 F61 (Or.inl ne_x1_b11)
  have F94 := Fld.other W80 F62 (Or.inl ne_x1_b11)
  have F95 := Exa.wr W80 F63
  have F96 := Fld.other W80 F64 (Or.inl ne_x2_b11)
  have F97 := Fld.other W80 F65 (Or.inl ne_x2_b11)
  have F98 := Exa.wr W80 F66
  have F99 := Fld.other W80 F67 (Or.inl ne_x3_b11)
  have F100 := Fld.other W80 F68 (Or.inl ne_x3_b11)
  have Kp80 : Keep h0 h80 [r0] := Kp48.wr W80 (Or.inr sz_b11)
  obtain ⟨f41_1, hf41_1, V80'⟩ : ∃ f41_1 : Nat → Int32, f41_1 = (upd f41 ((1 : Int32)).toNatClampNeg v60) ∧ IA Z h80 b11 .int 4 f41_1 := ⟨_, rfl, V80⟩
  obtain ⟨cq101, kq101, q101a, q101b, q101c⟩ := isOf hZ e80 F85
  obtain ⟨_, _, ⟨T101, L101, k101, n101⟩, -, X101, ⟨Lc101, hQ101, l101, y101, z101⟩, st101⟩ := X80.interfaceBack hx (xi := (⟨"java/util/List", "get", "(I)Ljava/lang/Object;"⟩ : MethodName)) (y := (⟨"java/util/ArrayList", "get", "(I)Ljava/lang/Object;"⟩ : MethodName)) hown (mvT hZ (hw _ (gw 119 rfl))) (mvT hZ (hw _ (gw 120 rfl))) (mvT hZ (hw _ (gw 121 rfl))) (mvT hZ (hw _ (gw 122 rfl))) (mvT hZ (hw _ (gw 123 rfl))) (mvT hZ (hw _ (gw 124 rfl))) (mvT hZ (hw _ (gw 125 rfl))) (mvT hZ (hw _ (gw 41 rfl))) (by decide) (backOf (W := 1) (rm_get l Z a0 hw [] r1 (1 : Int32) (4 : Int32) ed x1 f h80 n0 Z80 F85 F87 F88 F86 (by decide) hf1 (by decide) (by decide)) hZ (hw _ (gw 126 rfl)) (hw _ (gw 3 rfl)) (by decide) (by decide)) q101a q101b q101c (g := (mkF m 46 #[.val (.ref r0), .val (.ref r1), .val (.int v60), .val (.int (0 : Int32)), .val (.int (1 : Int32))] [(.int (1 : Int32)), (.ref r1), (.int v60)])) rfl (by rw [hml]; rfl) (Steps.refl _) (argsL := [(.int (1 : Int32))]) (rest := [(.int v60)]) (lenOf dn4_pd1 rfl) rfl (by show 2 * 0 + _ ≤ _; exact Nat.le_of_eq rfl) (hb hby dn_d46) (fun _ _ => ⟨rfl, e80, (by decide : 1 + 0 ≤ _), (by decide : 4 + 0 ≤ _)⟩)
  dsimp only [Pt.U, Pt.locs, Pt.cells, Pt.slots] at X101 l101 y101 z101 st101 hQ101
  rw [l101, y101, z101] at X101
  obtain ⟨rfl, N101q, e101⟩ := hQ101
  have N101 := Fr.app N80 N101q
  obtain ⟨T102, X102, e102, st102⟩ := castY X101 hx hZ hown (hw _ (gw 140 rfl)) e101 (Ins.self F92) (g := (mkF m 51 #[.val (.ref r0), .val (.ref r1), .val (.int v60), .val (.int (0 : Int32)), .val (.int (1 : Int32))] [(.ref x1), (.int v60)])) rfl rfl (hb hby dn_d51)
  obtain ⟨cq103, kq103, q103a, q103b, q103c⟩ := isOf hZ e102 F92
  obtain ⟨_, _, ⟨T103, L103, k103, n103⟩, -, X103, ⟨Lc103, hQ103, l103, y103, z103⟩, st103⟩ := X102.virtualBack hx (y := (⟨"com/example/termwright/termwright/Commit$Segment", "documentCount", "()I"⟩ : MethodName)) (z := (⟨"com/example/termwright/termwright/Commit$Segment", "documentCount", "()I"⟩ : MethodName)) hown (mvT hZ (hw _ (gw 142 rfl))) (mvT hZ (hw _ (gw 143 rfl))) (notFace_of_selects (args := #[]) (mvT hZ (hw _ (gw 145 rfl)))) (mvT hZ (hw _ (gw 145 rfl))) (mvT hZ (hw _ (gw 144 rfl))) (by decide) (backOf (W := 1) (rm_dcn l Z a0 hw [] x1 d1 h80 n0 Z80 F93) hZ (hw _ (gw 146 rfl)) (hw _ (gw 59 rfl)) (by decide) (by decide)) q103a q103c (g := (mkF m 54 #[.val (.ref r0), .val (.ref r1), .val (.int v60), .val (.int (0 : Int32)), .val (.int (1 : Int32))] [(.ref x1), (.int v60)])) rfl (by rw [hml]; rfl) (Steps.refl _) (argsL := []) (rest := [(.int v60)]) (lenOf dn4_pd0 rfl) rfl (by show 2 * 0 + _ ≤ _; exact Nat.le_of_eq rfl) (hb hby dn_d54) (fun _ _ => ⟨rfl, e102, (by decide : 1 + 0 ≤ _), (by decide : 4 + 0 ≤ _)⟩)
  dsimp only [Pt.U, Pt.locs, Pt.cells, Pt.slots] at X103 l103 y103 z103 st103 hQ103
  rw [l103, y103, z103] at X103
  obtain ⟨rfl, N103q, e103⟩ := hQ103
  have N103 := Fr.app N101 N103q
  obtain ⟨_, _, ⟨T104, L104, k104, n104⟩, -, X104, ⟨Lc104, hQ104, l104, y104, z104⟩, st104⟩ := Jvm.LawKit.callS X103 hx (y := (⟨"java/lang/Math", "addExact", "(II)I"⟩ : MethodName)) hown (mvT hZ (hw _ (gw 147 rfl))) (mvT hZ (hw _ (gw 148 rfl))) (mvT hZ (hw _ (gw 114 rfl))) (mvT hZ (hw _ (gw 149 rfl))) (by decide) (backOf (W := 0) (rm_adx l Z a0 hw [] v60 d1 h80 n0 Z80 (by rw [hv60]; exact hs1)) hZ (hw _ (gw 149 rfl)) (hw _ (gw 114 rfl)) (by decide) (by decide)) (g := (mkF m 57 #[.val (.ref r0), .val (.ref r1), .val (.int v60), .val (.int (0 : Int32)), .val (.int (1 : Int32))] [(.int d1), (.int v60)])) rfl (by rw [hml]; rfl) (argsL := [(.int v60), (.int d1)]) (rest := []) (lenOf dn4_pd2 rfl) rfl (by show 2 * 0 + _ ≤ _; exact Nat.le_of_eq rfl) (hb hby dn_d57) (fun _ _ => ⟨rfl, e103, (by decide : 1 + 0 ≤ _), (by decide : 4 + 0 ≤ _)⟩)
  dsimp only [Pt.U, Pt.locs, Pt.cells, Pt.slots] at X104 l104 y104 z104 st104 hQ104
  rw [l104, y104, z104] at X104
  obtain ⟨rfl, N104q, e104⟩ := hQ104
  have N104 := Fr.app N103 N104q
  have K105 : ∀ t, Steps p.tables e below (T104.setTop (mkF m 61 #[.val (.ref r0), .val (.ref r1), .val (.int (v60 + d1)), .val (.int (0 : Int32)), .val (.int (1 : Int32))] [])) t → P0 t := by
    intro t kt
    refine K74 t ?_
    refine XS.iloadN X72.here hx rfl (hb hby dn_d61) rfl ?_
    refine XS.aloadN X72.here hx rfl (hb hby dn_d62) rfl rfl ?_
    refine XS.iload X72.here hx rfl (hb hby dn_d63) rfl ?_
    show Steps p.tables e below (T72.setTop (mkF m 65 #[.val (.ref r0), .val (.ref r1), .val (.int v60), .val (.int (0 : Int32)), .val (.int (0 : Int32))] [(.int (0 : Int32)), (.ref r1), (.int (0 : Int32))])) t
    refine st75.trans ?_
    show Steps p.tables e below (T75.setTop (mkF m 70 #[.val (.ref r0), .val (.ref r1), .val (.int v60), .val (.int (0 : Int32)), .val (.int (0 : Int32))] [(.ref x0), (.int (0 : Int32))])) t
    refine st76 _ ?_
    show Steps p.tables e below (T76.setTop (mkF m 73 #[.val (.ref r0), .val (.ref r1), .val (.int v60), .val (.int (0 : Int32)), .val (.int (0 : Int32))] [(.ref x0), (.int (0 : Int32))])) t
    refine st77.trans ?_
    show Steps p.tables e below (T77.setTop (mkF m 76 #[.val (.ref r0), .val (.ref r1), .val (.int v60), .val (.int (0 : Int32)), .val (.int (0 : Int32))] [(.int (0 : Int32)), (.int (0 : Int32))])) t
    refine XS.iadd X77.here hx rfl (hb hby dn_d76) rfl ?_
    show Steps p.tables e below (T77.setTop (mkF m 77 #[.val (.ref r0), .val (.ref r1), .val (.int v60), .val (.int (0 : Int32)), .val (.int (0 : Int32))] [(.int (0 : Int32))])) t
    refine XS.istoreN X77.here hx rfl (hb hby dn_d77) rfl (l' := #[.val (.ref r0), .val (.ref r1), .val (.int v60), .val (.int (0 : Int32)), .val (.int (0 : Int32))]) rfl ?_
    show Steps p.tables e below (T77.setTop (mkF m 78 #[.val (.ref r0), .val (.ref r1), .val (.int v60), .val (.int (0 : Int32)), .val (.int (0 : Int32))] [])) t
    refine XS.iinc X77.here hx rfl (hb hby dn_d78) rfl (l' := #[.val (.ref r0), .val (.ref r1), .val (.int v60), .val (.int (0 : Int32)), .val (.int (1 : Int32))]) rfl ?_
    show Steps p.tables e below (T77.setTop (mkF m 81 #[.val (.ref r0), .val (.ref r1), .val (.int v60), .val (.int (0 : Int32)), .val (.int (1 : Int32))] [])) t
    refine XS.goto X77.here hx rfl (pc0 := 81) (pc' := 23) rfl (hb hby dn_d81) (by decide) (by decide) ?_
    refine XS.iload X77.here hx rfl (hb hby dn_d23) rfl ?_
    refine XS.aloadN X77.here hx rfl (hb hby dn_d25) rfl rfl ?_
    show Steps p.tables e below (T77.setTop (mkF m 26 #[.val (.ref r0), .val (.ref r1), .val (.int v60), .val (.int (0 : Int32)), .val (.int (1 : Int32))] [(.ref r1), (.int (1 : Int32))])) t
    refine st78.trans ?_
    show Steps p.tables e below (T78.setTop (mkF m 31 #[.val (.ref r0), .val (.ref r1), .val (.int v60), .val (.int (0 : Int32)), .val (.int (1 : Int32))] [(.int (4 : Int32)), (.int (1 : Int32))])) t
    refine XS.icmpNo X78.here hx rfl (hb hby dn_d31) rfl (tlt (by decide)).2.1 ?_
    refine XS.aloadN X78.here hx rfl (hb hby dn_d34) rfl rfl ?_
    show Steps p.tables e below (T78.setTop (mkF m 35 #[.val (.ref r0), .val (.ref r1), .val (.int v60), .val (.int (0 : Int32)), .val (.int (1 : Int32))] [(.ref r0)])) t
    refine st79 _ ?_
    refine XS.iload X79.here hx rfl (hb hby dn_d38) rfl ?_
    refine XS.iloadN X79.here hx rfl (hb hby dn_d40) rfl ?_
    show Steps p.tables e below (T79.setTop (mkF m 41 #[.val (.ref r0), .val (.ref r1), .val (.int v60), .val (.int (0 : Int32)), .val (.int (1 : Int32))] [(.int v60), (.int (1 : Int32)), (.ref b11)])) t
    refine st80 _ ?_
    refine XS.iloadN X80.here hx rfl (hb hby dn_d42) rfl ?_
    refine XS.aloadN X80.here hx rfl (hb hby dn_d43) rfl rfl ?_
    refine XS.iload X80.here hx rfl (hb hby dn_d44) rfl ?_
    show Steps p.tables e below (T80.setTop (mkF m 46 #[.val (.ref r0), .val (.ref r1), .val (.int v60), .val (.int (0 : Int32)), .val (.int (1 : Int32))] [(.int (1 : Int32)), (.ref r1), (.int v60)])) t
    refine st101.trans ?_
    show Steps p.tables e below (T101.setTop (mkF m 51 #[.val (.ref r0), .val (.ref r1), .val (.int v60), .val (.int (0 : Int32)), .val (.int (1 : Int32))] [(.ref x1), (.int v60)])) t
    refine st102 _ ?_
    show Steps p.tables e below (T102.setTop (mkF m 54 #[.val (.ref r0), .val (.ref r1), .val (.int v60), .val (.int (0 : Int32)), .val (.int (1 : Int32))] [(.ref x1), (.int v60)])) t
    refine st103.trans ?_
    show Steps p.tables e below (T103.setTop (mkF m 57 #[.val (.ref r0), .val (.ref r1), .val (.int v60), .val (.int (0 : Int32)), .val (.int (1 : Int32))] [(.int d1), (.int v60)])) t
    refine st104 _ ?_
    show Steps p.tables e below (T104.setTop (mkF m 60 #[.val (.ref r0), .val (.ref r1), .val (.int v60), .val (.int (0 : Int32)), .val (.int (1 : Int32))] [(.int (v60 + d1))])) t
    refine XS.istoreN X104.here hx rfl (hb hby dn_d60) rfl (l' := #[.val (.ref r0), .val (.ref r1), .val (.int (v60 + d1)), .val (.int (0 : Int32)), .val (.int (1 : Int32))]) rfl ?_
    exact kt
  obtain ⟨v60_1, hv60_1, K106⟩ : ∃ v60_1 : Int32, v60_1 = (v60 + d1) ∧ ∀ t, Steps p.tables e below (T104.setTop (mkF m 61 #[.val (.ref r0), .val (.ref r1), .val (.int v60_1), .val (.int (0 : Int32)), .val (.int (1 : Int32))] [])) t → P0 t := ⟨_, rfl, K105⟩
  obtain ⟨cq107, kq107, q107a, q107b, q107c⟩ := isOf hZ e104 F85
  obtain ⟨_, _, ⟨T107, L107, k107, n107⟩, -, X107, ⟨Lc107, hQ107, l107, y107, z107⟩, st107⟩ := X104.interfaceBack hx (xi := (⟨"java/util/List", "get", "(I)Ljava/lang/Object;"⟩ : MethodName)) (y := (⟨"java/util/ArrayList", "get", "(I)Ljava/lang/Object;"⟩ : MethodName)) hown (mvT hZ (hw _ (gw 119 rfl))) (mvT hZ (hw _ (gw 120 rfl))) (mvT hZ (hw _ (gw 121 rfl))) (mvT hZ (hw _ (gw 122 rfl))) (mvT hZ (hw _ (gw 123 rfl))) (mvT hZ (hw _ (gw 124 rfl))) (mvT hZ (hw _ (gw 125 rfl))) (mvT hZ (hw _ (gw 41 rfl))) (by decide) (backOf (W := 1) (rm_get l Z a0 hw [] r1 (1 : Int32) (4 : Int32) ed x1 f h80 n0 Z80 F85 F87 F88 F86 (by decide) hf1 (by decide) (by decide)) hZ (hw _ (gw 126 rfl)) (hw _ (gw 3 rfl)) (by decide) (by decide)) q107a q107b q107c (g := (mkF m 65 #[.val (.ref r0), .val (.ref r1), .val (.int v60_1), .val (.int (0 : Int32)), .val (.int (1 : Int32))] [(.int (1 : Int32)), (.ref r1), (.int (0 : Int32))])) rfl (by rw [hml]; rfl) (Steps.refl _) (argsL := [(.int (1 : Int32))]) (rest := [(.int (0 : Int32))]) (lenOf dn4_pd1 rfl) rfl (by show 2 * 0 + _ ≤ _; exact Nat.le_of_eq rfl) (hb hby dn_d65) (fun _ _ => ⟨rfl, e104, (by decide : 1 + 0 ≤ _), (by decide : 4 + 0 ≤ _)⟩)
  dsimp only [Pt.U, Pt.locs, Pt.cells, Pt.slots] at X107 l107 y107 z107 st107 hQ107
  rw [l107, y107, z107] at X107
  obtain ⟨rfl, N107q, e107⟩ := hQ107
  have N107 := Fr.app N104 N107q
  obtain ⟨T108, X108, e108, st108⟩ := castY X107 hx hZ hown (hw _ (gw 140 rfl)) e107 (Ins.self F92) (g := (mkF m 70 #[.val (.ref r0), .val (.ref r1), .val (.int v60_1), .val (.int (0 : Int32)), .val (.int (1 : Int32))] [(.ref x1), (.int (0 : Int32))])) rfl rfl (hb hby dn_d70)
  obtain ⟨cq109, kq109, q109a, q109b, q109c⟩ := isOf hZ e108 F92
  obtain ⟨_, _, ⟨T109, L109, k109, n109⟩, -, X109, ⟨Lc109, hQ109, l109, y109, z109⟩, st109⟩ := X108.virtualBack hx (y := (⟨"com/example/termwright/termwright/Commit$Segment", "deletedCount", "()I"⟩ : MethodName)) (z := (⟨"com/example/termwright/termwright/Commit$Segment", "deletedCount", "()I"⟩ : MethodName)) hown (mvT hZ (hw _ (gw 150 rfl))) (mvT hZ (hw _ (gw 151 rfl))) (notFace_of_selects (args := #[]) (mvT hZ (hw _ (gw 153 rfl)))) (mvT hZ (hw _ (gw 153 rfl))) (mvT hZ (hw _ (gw 152 rfl))) (by decide) (backOf (W := 1) (rm_dlc l Z a0 hw [] x1 h80 n0 Z80 F94) hZ (hw _ (gw 154 rfl)) (hw _ (gw 59 rfl)) (by decide) (by decide)) q109a q109c (g := (mkF m 73 #[.val (.ref r0), .val (.ref r1), .val (.int v60_1), .val (.int (0 : Int32)), .val (.int (1 : Int32))] [(.ref x1), (.int (0 : Int32))])) rfl (by rw [hml]; rfl) (Steps.refl _) (argsL := []) (rest := [(.int (0 : Int32))]) (lenOf dn4_pd0 rfl) rfl (by show 2 * 0 + _ ≤ _; exact Nat.le_of_eq rfl) (hb hby dn_d73) (fun _ _ => ⟨rfl, e108, (by decide : 1 + 0 ≤ _), (by decide : 4 + 0 ≤ _)⟩)
  dsimp only [Pt.U, Pt.locs, Pt.cells, Pt.slots] at X109 l109 y109 z109 st109 hQ109
  rw [l109, y109, z109] at X109
  obtain ⟨rfl, N109q, e109⟩ := hQ109
  have N109 := Fr.app N107 N109q
  obtain ⟨cq110, kq110, q110a, q110b, q110c⟩ := isOf hZ e109 F85
  obtain ⟨_, _, ⟨T110, L110, k110, n110⟩, -, X110, ⟨Lc110, hQ110, l110, y110, z110⟩, st110⟩ := X109.interfaceBack hx (xi := (⟨"java/util/List", "size", "()I"⟩ : MethodName)) (y := (⟨"java/util/ArrayList", "size", "()I"⟩ : MethodName)) hown (mvT hZ (hw _ (gw 34 rfl))) (mvT hZ (hw _ (gw 35 rfl))) (mvT hZ (hw _ (gw 36 rfl))) (mvT hZ (hw _ (gw 37 rfl))) (mvT hZ (hw _ (gw 38 rfl))) (mvT hZ (hw _ (gw 39 rfl))) (mvT hZ (hw _ (gw 40 rfl))) (mvT hZ (hw _ (gw 41 rfl))) (by decide) (backOf (W := 1) (rm_siz l Z a0 hw [] r1 (4 : Int32) h80 n0 Z80 F86) hZ (hw _ (gw 42 rfl)) (hw _ (gw 3 rfl)) (by decide) (by decide)) q110a q110b q110c (g := (mkF m 26 #[.val (.ref r0), .val (.ref r1), .val (.int v60_1), .val (.int (0 : Int32)), .val (.int (2 : Int32))] [(.ref r1), (.int (2 : Int32))])) rfl (by rw [hml]; rfl) (Steps.refl _) (argsL := []) (rest := [(.int (2 : Int32))]) (lenOf dn4_pd0 rfl) rfl (by show 2 * 0 + _ ≤ _; exact Nat.le_of_eq rfl) (hb hby dn_d26) (fun _ _ => ⟨rfl, e109, (by decide : 1 + 0 ≤ _), (by decide : 4 + 0 ≤ _)⟩)
  dsimp only [Pt.U, Pt.locs, Pt.cells, Pt.slots] at X110 l110 y110 z110 st110 hQ110
  rw [l110, y110, z110] at X110
  obtain ⟨rfl, N110q, e110⟩ := hQ110
  have N110 := Fr.app N109 N110q
  obtain ⟨T111, X111, e111, st111⟩ := getF X110 hx hZ hown (host := "") (Or.inl (hw _ (gw 46 rfl))) Via.refl e110 F82 (g := (mkF m 35 #[.val (.ref r0), .val (.ref r1), .val (.int v60_1), .val (.int (0 : Int32)), .val (.int (2 : Int32))] [(.ref r0)])) rfl rfl (hb hby dn_d35)
  obtain ⟨T112, h112, X112, e112, ⟨sl112, vv112, W112⟩, V112, st112⟩ := stIA X111 hx hZ e111 V80' (j := (2 : Int32)) (x := v60_1) (by decide) (g := (mkF m 41 #[.val (.ref r0), .val (.ref r1), .val (.int v60_1), .val (.int (0 : Int32)), .val (.int (2 : Int32))] [(.int v60_1), (.int (2 : Int32)), (.ref b11)])) rfl rfl (hb hby dn_d41)
  have Z112 : n0 ≤ h112.size := Nat.le_trans Z80 (Keep.of_wr W112).1
  have N112 := Fr.snoc X112 N110 g_b11
  have F113 := Exa.wr W112 F81
  have F114 := Fld.other W112 F82 (Or.inl ne_r0_b11)
  have F115 := Fld.other W112 F83 (Or.inl ne_r0_b11)
  have F116 := Fld.other W112 F84 (Or.inl ne_r0_b11)
  have F117 := Exa.wr W112 F85
  have F118 := Fld.other W112 F86 (Or.inl ne_r1_b11)
  have F119 := Fld.other W112 F87 (Or.inl ne_r1_b11)
  have F120 := F88.other W112 ne_ed_b11
  have F121 := Exa.wr W112 F89
  have F122 := Fld.other W112 F90 (Or.inl ne_x0_b11)
  have F123 := Fld.other W112 F91 (Or.inl ne_x0_b11)
  have F124 := Exa.wr W112 F92
  have F125 := Fld.other W112 F93 (Or.inl ne_x1_b11)
  have F126 := Fld.other W112 F94 (Or.inl ne_x1_b11)
  have F127 := Exa.wr W112 F95
  have F128 := Fld.other W112 F96 (Or.inl ne_x2_b11)
  have F129 := Fld.other W112 F97 (Or.inl ne_x2_b11)
  have F130 := Exa.wr W112 F98
  have F131 := Fld.other W112 F99 (Or.inl ne_x3_b11)
  have F132 := Fld.other W112 F100 (Or.inl ne_x3_b11)
  have Kp112 : Keep h0 h112 [r0] := Kp80.wr W112 (Or.inr sz_b11)
  obtain ⟨f41_2, hf41_2, V112'⟩ : ∃ f41_2 : Nat → Int32, f41_2 = (upd f41_1 ((2 : Int32)).toNatClampNeg v60_1) ∧ IA Z h112 b11 .int 4 f41_2 := ⟨_, rfl, V112⟩
  obtain ⟨cq133, kq133, q133a, q133b, q133c⟩ := isOf hZ e112 F117
  obtain ⟨_, _, ⟨T133, L133, k133, n133⟩, -, X133, ⟨Lc133, hQ133, l133, y133, z133⟩, st133⟩ := X112.interfaceBack hx (xi := (⟨"java/util/List", "get", "(I)Ljava/lang/Object;"⟩ : MethodName)) (y := (⟨"java/util/ArrayList", "get", "(I)Ljava/lang/Object;"⟩ : MethodName)) hown (mvT hZ (hw _ (gw 119 rfl))) (mvT hZ (hw _ (gw 120 rfl))) (mvT hZ (hw _ (gw 121 rfl))) (mvT hZ (hw _ (gw 122 rfl))) (mvT hZ (hw _ (gw 123 rfl))) (mvT hZ (hw _ (gw 124 rfl))) (mvT hZ (hw _ (gw 125 rfl))) (mvT hZ (hw _ (gw 41 rfl))) (by decide) (backOf (W := 1) (rm_get l Z a0 hw [] r1 (2 : Int32) (4 : Int32) ed x2 f h112 n0 Z112 F117 F119 F120 F118 (by decide) hf2 (by decide) (by decide)) hZ (hw _ (gw 126 rfl)) (hw _ (gw 3 rfl)) (by decide) (by decide)) q133a q133b q133c (g := (mkF m 46 #[.val (.ref r0), .val (.ref r1), .val (.int v60_1), .val (.int (0 : Int32)), .val (.int (2 : Int32))] [(.int (2 : Int32)), (.ref r1), (.int v60_1)])) rfl (by rw [hml]; rfl) (Steps.refl _) (argsL := [(.int (2 : Int32))]) (rest := [(.int v60_1)]) (lenOf dn4_pd1 rfl) rfl (by show 2 * 0 + _ ≤ _; exact Nat.le_of_eq rfl) (hb hby dn_d46) (fun _ _ => ⟨rfl, e112, (by decide : 1 + 0 ≤ _), (by decide : 4 + 0 ≤ _)⟩)
  dsimp only [Pt.U, Pt.locs, Pt.cells, Pt.slots] at X133 l133 y133 z133 st133 hQ133
  rw [l133, y133, z133] at X133
  obtain ⟨rfl, N133q, e133⟩ := hQ133
  have N133 := Fr.app N112 N133q
  obtain ⟨T134, X134, e134, st134⟩ := castY X133 hx hZ hown (hw _ (gw 140 rfl)) e133 (Ins.self F127) (g := (mkF m 51 #[.val (.ref r0), .val (.ref r1), .val (.int v60_1), .val (.int (0 : Int32)), .val (.int (2 : Int32))] [(.ref x2), (.int v60_1)])) rfl rfl (hb hby dn_d51)
  obtain ⟨cq135, kq135, q135a, q135b, q135c⟩ := isOf hZ e134 F127
  obtain ⟨_, _, ⟨T135, L135, k135, n135⟩, -, X135, ⟨Lc135, hQ135, l135, y135, z135⟩, st135⟩ := X134.virtualBack hx (y := (⟨"com/example/termwright/termwright/Commit$Segment", "documentCount", "()I"⟩ : MethodName)) (z := (⟨"com/example/termwright/termwright/Commit$Segment", "documentCount", "()I"⟩ : MethodName)) hown (mvT hZ (hw _ (gw 142 rfl))) (mvT hZ (hw _ (gw 143 rfl))) (notFace_of_selects (args := #[]) (mvT hZ (hw _ (gw 145 rfl)))) (mvT hZ (hw _ (gw 145 rfl))) (mvT hZ (hw _ (gw 144 rfl))) (by decide) (backOf (W := 1) (rm_dcn l Z a0 hw [] x2 d2 h112 n0 Z112 F128) hZ (hw _ (gw 146 rfl)) (hw _ (gw 59 rfl)) (by decide) (by decide)) q135a q135c (g := (mkF m 54 #[.val (.ref r0), .val (.ref r1), .val (.int v60_1), .val (.int (0 : Int32)), .val (.int (2 : Int32))] [(.ref x2), (.int v60_1)])) rfl (by rw [hml]; rfl) (Steps.refl _) (argsL := []) (rest := [(.int v60_1)]) (lenOf dn4_pd0 rfl) rfl (by show 2 * 0 + _ ≤ _; exact Nat.le_of_eq rfl) (hb hby dn_d54) (fun _ _ => ⟨rfl, e134, (by decide : 1 + 0 ≤ _), (by decide : 4 + 0 ≤ _)⟩)
  dsimp only [Pt.U, Pt.locs, Pt.cells, Pt.slots] at X135 l135 y135 z135 st135 hQ135
  rw [l135, y135, z135] at X135
  obtain ⟨rfl, N135q, e135⟩ := hQ135
  have N135 := Fr.app N133 N135q
  obtain ⟨_, _, ⟨T136, L136, k136, n136⟩, -, X136, ⟨Lc136, hQ136, l136, y136, z136⟩, st136⟩ := Jvm.LawKit.callS X135 hx (y := (⟨"java/lang/Math", "addExact", "(II)I"⟩ : MethodName)) hown (mvT hZ (hw _ (gw 147 rfl))) (mvT hZ (hw _ (gw 148 rfl))) (mvT hZ (hw _ (gw 114 rfl))) (mvT hZ (hw _ (gw 149 rfl))) (by decide) (backOf (W := 0) (rm_adx l Z a0 hw [] v60_1 d2 h112 n0 Z112 (by rw [hv60_1, hv60]; exact hs2)) hZ (hw _ (gw 149 rfl)) (hw _ (gw 114 rfl)) (by decide) (by decide)) (g := (mkF m 57 #[.val (.ref r0), .val (.ref r1), .val (.int v60_1), .val (.int (0 : Int32)), .val (.int (2 : Int32))] [(.int d2), (.int v60_1)])) rfl (by rw [hml]; rfl) (argsL := [(.int v60_1), (.int d2)]) (rest := []) (lenOf dn4_pd2 rfl) rfl (by show 2 * 0 + _ ≤ _; exact Nat.le_of_eq rfl) (hb hby dn_d57) (fun _ _ => ⟨rfl, e135, (by decide : 1 + 0 ≤ _), (by decide : 4 + 0 ≤ _)⟩)
  dsimp only [Pt.U, Pt.locs, Pt.cells, Pt.slots] at X136 l136 y136 z136 st136 hQ136
  rw [l136, y136, z136] at X136
  obtain ⟨rfl, N136q, e136⟩ := hQ136
  have N136 := Fr.app N135 N136q
  have K137 : ∀ t, Steps p.tables e below (T136.setTop (mkF m 61 #[.val (.ref r0), .val (.ref r1), .val (.int (v60_1 + d2)), .val (.int (0 : Int32)), .val (.int (2 : Int32))] [])) t → P0 t := by
    intro t kt
    refine K106 t ?_
    refine XS.iloadN X104.here hx rfl (hb hby dn_d61) rfl ?_
    refine XS.aloadN X104.here hx rfl (hb hby dn_d62) rfl rfl ?_
    refine XS.iload X104.here hx rfl (hb hby dn_d63) rfl ?_
    show Steps p.tables e below (T104.setTop (mkF m 65 #[.val (.ref r0), .val (.ref r1), .val (.int v60_1), .val (.int (0 : Int32)), .val (.int (1 : Int32))] [(.int (1 : Int32)), (.ref r1), (.int (0 : Int32))])) t
    refine st107.trans ?_
    show Steps p.tables e below (T107.setTop (mkF m 70 #[.val (.ref r0), .val (.ref r1), .val (.int v60_1), .val (.int (0 : Int32)), .val (.int (1 : Int32))] [(.ref x1), (.int (0 : Int32))])) t
    refine st108 _ ?_
    show Steps p.tables e below (T108.setTop (mkF m 73 #[.val (.ref r0), .val (.ref r1), .val (.int v60_1), .val (.int (0 : Int32)), .val (.int (1 : Int32))] [(.ref x1), (.int (0 : Int32))])) t
    refine st109.trans ?_
    show Steps p.tables e below (T109.setTop (mkF m 76 #[.val (.ref r0), .val (.ref r1), .val (.int v60_1), .val (.int (0 : Int32)), .val (.int (1 : Int32))] [(.int (0 : Int32)), (.int (0 : Int32))])) t
    refine XS.iadd X109.here hx rfl (hb hby dn_d76) rfl ?_
    show Steps p.tables e below (T109.setTop (mkF m 77 #[.val (.ref r0), .val (.ref r1), .val (.int v60_1), .val (.int (0 : Int32)), .val (.int (1 : Int32))] [(.int (0 : Int32))])) t
    refine XS.istoreN X109.here hx rfl (hb hby dn_d77) rfl (l' := #[.val (.ref r0), .val (.ref r1), .val (.int v60_1), .val (.int (0 : Int32)), .val (.int (1 : Int32))]) rfl ?_
    show Steps p.tables e below (T109.setTop (mkF m 78 #[.val (.ref r0), .val (.ref r1), .val (.int v60_1), .val (.int (0 : Int32)), .val (.int (1 : Int32))] [])) t
    refine XS.iinc X109.here hx rfl (hb hby dn_d78) rfl (l' := #[.val (.ref r0), .val (.ref r1), .val (.int v60_1), .val (.int (0 : Int32)), .val (.int (2 : Int32))]) rfl ?_
    show Steps p.tables e below (T109.setTop (mkF m 81 #[.val (.ref r0), .val (.ref r1), .val (.int v60_1), .val (.int (0 : Int32)), .val (.int (2 : Int32))] [])) t
    refine XS.goto X109.here hx rfl (pc0 := 81) (pc' := 23) rfl (hb hby dn_d81) (by decide) (by decide) ?_
    refine XS.iload X109.here hx rfl (hb hby dn_d23) rfl ?_
    refine XS.aloadN X109.here hx rfl (hb hby dn_d25) rfl rfl ?_
    show Steps p.tables e below (T109.setTop (mkF m 26 #[.val (.ref r0), .val (.ref r1), .val (.int v60_1), .val (.int (0 : Int32)), .val (.int (2 : Int32))] [(.ref r1), (.int (2 : Int32))])) t
    refine st110.trans ?_
    show Steps p.tables e below (T110.setTop (mkF m 31 #[.val (.ref r0), .val (.ref r1), .val (.int v60_1), .val (.int (0 : Int32)), .val (.int (2 : Int32))] [(.int (4 : Int32)), (.int (2 : Int32))])) t
    refine XS.icmpNo X110.here hx rfl (hb hby dn_d31) rfl (tlt (by decide)).2.1 ?_
    refine XS.aloadN X110.here hx rfl (hb hby dn_d34) rfl rfl ?_
    show Steps p.tables e below (T110.setTop (mkF m 35 #[.val (.ref r0), .val (.ref r1), .val (.int v60_1), .val (.int (0 : Int32)), .val (.int (2 : Int32))] [(.ref r0)])) t
    refine st111 _ ?_
    refine XS.iload X111.here hx rfl (hb hby dn_d38) rfl ?_
    refine XS.iloadN X111.here hx rfl (hb hby dn_d40) rfl ?_
    show Steps p.tables e below (T111.setTop (mkF m 41 #[.val (.ref r0), .val (.ref r1), .val (.int v60_1), .val (.int (0 : Int32)), .val (.int (2 : Int32))] [(.int v60_1), (.int (2 : Int32)), (.ref b11)])) t
    refine st112 _ ?_
    refine XS.iloadN X112.here hx rfl (hb hby dn_d42) rfl ?_
    refine XS.aloadN X112.here hx rfl (hb hby dn_d43) rfl rfl ?_
    refine XS.iload X112.here hx rfl (hb hby dn_d44) rfl ?_
    show Steps p.tables e below (T112.setTop (mkF m 46 #[.val (.ref r0), .val (.ref r1), .val (.int v60_1), .val (.int (0 : Int32)), .val (.int (2 : Int32))] [(.int (2 : Int32)), (.ref r1), (.int v60_1)])) t
    refine st133.trans ?_
    show Steps p.tables e below (T133.setTop (mkF m 51 #[.val (.ref r0), .val (.ref r1), .val (.int v60_1), .val (.int (0 : Int32)), .val (.int (2 : Int32))] [(.ref x2), (.int v60_1)])) t
    refine st134 _ ?_
    show Steps p.tables e below (T134.setTop (mkF m 54 #[.val (.ref r0), .val (.ref r1), .val (.int v60_1), .val (.int (0 : Int32)), .val (.int (2 : Int32))] [(.ref x2), (.int v60_1)])) t
    refine st135.trans ?_
    show Steps p.tables e below (T135.setTop (mkF m 57 #[.val (.ref r0), .val (.ref r1), .val (.int v60_1), .val (.int (0 : Int32)), .val (.int (2 : Int32))] [(.int d2), (.int v60_1)])) t
    refine st136 _ ?_
    show Steps p.tables e below (T136.setTop (mkF m 60 #[.val (.ref r0), .val (.ref r1), .val (.int v60_1), .val (.int (0 : Int32)), .val (.int (2 : Int32))] [(.int (v60_1 + d2))])) t
    refine XS.istoreN X136.here hx rfl (hb hby dn_d60) rfl (l' := #[.val (.ref r0), .val (.ref r1), .val (.int (v60_1 + d2)), .val (.int (0 : Int32)), .val (.int (2 : Int32))]) rfl ?_
    exact kt
  obtain ⟨v60_2, hv60_2, K138⟩ : ∃ v60_2 : Int32, v60_2 = (v60_1 + d2) ∧ ∀ t, Steps p.tables e below (T136.setTop (mkF m 61 #[.val (.ref r0), .val (.ref r1), .val (.int v60_2), .val (.int (0 : Int32)), .val (.int (2 : Int32))] [])) t → P0 t := ⟨_, rfl, K137⟩
  obtain ⟨cq139, kq139, q139a, q139b, q139c⟩ := isOf hZ e136 F117
  obtain ⟨_, _, ⟨T139, L139, k139, n139⟩, -, X139, ⟨Lc139, hQ139, l139, y139, z139⟩, st139⟩ := X136.interfaceBack hx (xi := (⟨"java/util/List", "get", "(I)Ljava/lang/Object;"⟩ : MethodName)) (y := (⟨"java/util/ArrayList", "get", "(I)Ljava/lang/Object;"⟩ : MethodName)) hown (mvT hZ (hw _ (gw 119 rfl))) (mvT hZ (hw _ (gw 120 rfl))) (mvT hZ (hw _ (gw 121 rfl))) (mvT hZ (hw _ (gw 122 rfl))) (mvT hZ (hw _ (gw 123 rfl))) (mvT hZ (hw _ (gw 124 rfl))) (mvT hZ (hw _ (gw 125 rfl))) (mvT hZ (hw _ (gw 41 rfl))) (by decide) (backOf (W := 1) (rm_get l Z a0 hw [] r1 (2 : Int32) (4 : Int32) ed x2 f h112 n0 Z112 F117 F119 F120 F118 (by decide) hf2 (by decide) (by decide)) hZ (hw _ (gw 126 rfl)) (hw _ (gw 3 rfl)) (by decide) (by decide)) q139a q139b q139c (g := (mkF m 65 #[.val (.ref r0), .val (.ref r1), .val (.int v60_2), .val (.int (0 : Int32)), .val (.int (2 : Int32))] [(.int (2 : Int32)), (.ref r1), (.int (0 : Int32))])) rfl (by rw [hml]; rfl) (Steps.refl _) (argsL := [(.int (2 : Int32))]) (rest := [(.int (0 : Int32))]) (lenOf dn4_pd1 rfl) rfl (by show 2 * 0 + _ ≤ _; exact Nat.le_of_eq rfl) (hb hby dn_d65) (fun _ _ => ⟨rfl, e136, (by decide : 1 + 0 ≤ _), (by decide : 4 + 0 ≤ _)⟩)
  dsimp only [Pt.U, Pt.locs, Pt.cells, Pt.slots] at X139 l139 y139 z139 st139 hQ139
  rw [l139, y139, z139] at X139
  obtain ⟨rfl, N139q, e139⟩ := hQ139
  have N139 := Fr.app N136 N139q
  obtain ⟨T140, X140, e140, st140⟩ := castY X139 hx hZ hown (hw _ (gw 140 rfl)) e139 (Ins.self F127) (g := (mkF m 70 #[.val (.ref r0), .val (.ref r1), .val (.int v60_2), .val (.int (0 : Int32)), .val (.int (2 : Int32))] [(.ref x2), (.int (0 : Int32))])) rfl rfl (hb hby dn_d70)
  obtain ⟨cq141, kq141, q141a, q141b, q141c⟩ := isOf hZ e140 F127
  obtain ⟨_, _, ⟨T141, L141, k141, n141⟩, -, X141, ⟨Lc141, hQ141, l141, y141, z141⟩, st141⟩ := X140.virtualBack hx (y := (⟨"com/example/termwright/termwright/Commit$Segment", "deletedCount", "()I"⟩ : MethodName)) (z := (⟨"com/example/termwright/termwright/Commit$Segment", "deletedCount", "()I"⟩ : MethodName)) hown (mvT hZ (hw _ (gw 150 rfl))) (mvT hZ (hw _ (gw 151 rfl))) (notFace_of_selects (args := #[]) (mvT hZ (hw _ (gw 153 rfl)))) (mvT hZ (hw _ (gw 153 rfl))) (mvT hZ (hw _ (gw 152 rfl))) (by decide) (backOf (W := 1) (rm_dlc l Z a0 hw [] x2 h112 n0 Z112 F129) hZ (hw _ (gw 154 rfl)) (hw _ (gw 59 rfl)) (by decide) (by decide)) q141a q141c (g := (mkF m 73 #[.val (.ref r0), .val (.ref r1), .val (.int v60_2), .val (.int (0 : Int32)), .val (.int (2 : Int32))] [(.ref x2), (.int (0 : Int32))])) rfl (by rw [hml]; rfl) (Steps.refl _) (argsL := []) (rest := [(.int (0 : Int32))]) (lenOf dn4_pd0 rfl) rfl (by show 2 * 0 + _ ≤ _; exact Nat.le_of_eq rfl) (hb hby dn_d73) (fun _ _ => ⟨rfl, e140, (by decide : 1 + 0 ≤ _), (by decide : 4 + 0 ≤ _)⟩)
  dsimp only [Pt.U, Pt.locs, Pt.cells, Pt.slots] at X141 l141 y141 z141 st141 hQ141
  rw [l141, y141, z141] at X141
  obtain ⟨rfl, N141q, e141⟩ := hQ141
  have N141 := Fr.app N139 N141q
  obtain ⟨cq142, kq142, q142a, q142b, q142c⟩ := isOf hZ e141 F117
  obtain ⟨_, _, ⟨T142, L142, k142, n142⟩, -, X142, ⟨Lc142, hQ142, l142, y142, z142⟩, st142⟩ := X141.interfaceBack hx (xi := (⟨"java/util/List", "size", "()I"⟩ : MethodName)) (y := (⟨"java/util/ArrayList", "size", "()I"⟩ : MethodName)) hown (mvT hZ (hw _ (gw 34 rfl))) (mvT hZ (hw _ (gw 35 rfl))) (mvT hZ (hw _ (gw 36 rfl))) (mvT hZ (hw _ (gw 37 rfl))) (mvT hZ (hw _ (gw 38 rfl))) (mvT hZ (hw _ (gw 39 rfl))) (mvT hZ (hw _ (gw 40 rfl))) (mvT hZ (hw _ (gw 41 rfl))) (by decide) (backOf (W := 1) (rm_siz l Z a0 hw [] r1 (4 : Int32) h112 n0 Z112 F118) hZ (hw _ (gw 42 rfl)) (hw _ (gw 3 rfl)) (by decide) (by decide)) q142a q142b q142c (g := (mkF m 26 #[.val (.ref r0), .val (.ref r1), .val (.int v60_2), .val (.int (0 : Int32)), .val (.int (3 : Int32))] [(.ref r1), (.int (3 : Int32))])) rfl (by rw [hml]; rfl) (Steps.refl _) (argsL := []) (rest := [(.int (3 : Int32))]) (lenOf dn4_pd0 rfl) rfl (by show 2 * 0 + _ ≤ _; exact Nat.le_of_eq rfl) (hb hby dn_d26) (fun _ _ => ⟨rfl, e141, (by decide : 1 + 0 ≤ _), (by decide : 4 + 0 ≤ _)⟩)
  dsimp only [Pt.U, Pt.locs, Pt.cells, Pt.slots] at X142 l142 y142 z142 st142 hQ142
  rw [l142, y142, z142] at X142
  obtain ⟨rfl, N142q, e142⟩ := hQ142
  have N142 := Fr.app N141 N142q
  obtain ⟨T143, X143, e143, st143⟩ := getF X142 hx hZ hown (host := "") (Or.inl (hw _ (gw 46 rfl))) Via.refl e142 F114 (g := (mkF m 35 #[.val (.ref r0), .val (.ref r1), .val (.int v60_2), .val (.int (0 : Int32)), .val (.int (3 : Int32))] [(.ref r0)])) rfl rfl (hb hby dn_d35)
  obtain ⟨T144, h144, X144, e144, ⟨sl144, vv144, W144⟩, V144, st144⟩ := stIA X143 hx hZ e143 V112' (j := (3 : Int32)) (x := v60_2) (by decide) (g := (mkF m 41 #[.val (.ref r0), .val (.ref r1), .val (.int v60_2), .val (.int (0 : Int32)), .val (.int (3 : Int32))] [(.int v60_2), (.int (3 : Int32)), (.ref b11)])) rfl rfl (hb hby dn_d41)
  have Z144 : n0 ≤ h144.size := Nat.le_trans Z112 (Keep.of_wr W144).1
  have N144 := Fr.snoc X144 N142 g_b11
  have F145 := Exa.wr W144 F113
  have F146 := Fld.other W144 F114 (Or.inl ne_r0_b11)
  have F147 := Fld.other W144 F115 (Or.inl ne_r0_b11)
  have F148 := Fld.other W144 F116 (Or.inl ne_r0_b11)
  have F149 := Exa.wr W144 F117
  have F150 := Fld.other W144 F118 (Or.inl ne_r1_b11)
  have F151 := Fld.other W144 F119 (Or.inl ne_r1_b11)
  have F152 := F120.other W144 ne_ed_b11
  have F153 := Exa.wr W144 F121
  have F154 := Fld.other W144 F122 (Or.inl ne_x0_b11)
  have F155 := Fld.other W144 F123 (Or.inl ne_x0_b11)
  have F156 := Exa.wr W144 F124
  have F157 := Fld.other W144 F125 (Or.inl ne_x1_b11)
  have F158 := Fld.other W144 F126 (Or.inl ne_x1_b11)
  have F159 := Exa.wr W144 F127
  have F160 := Fld.other W144 F128 (Or.inl ne_x2_b11)
  have F161 := Fld.other W144 F129 (Or.inl ne_x2_b11)
  have F162 := Exa.wr W144 F130
  have F163 := Fld.other W144 F131 (Or.inl ne_x3_b11)
  have F164 := Fld.other W144 F132 (Or.inl ne_x3_b11)
  have Kp144 : Keep h0 h144 [r0] := Kp112.wr W144 (Or.inr sz_b11)
  obtain ⟨f41_3, hf41_3, V144'⟩ : ∃ f41_3 : Nat → Int32, f41_3 = (upd f41_2 ((3 : Int32)).toNatClampNeg v60_2) ∧ IA Z h144 b11 .int 4 f41_3 := ⟨_, rfl, V144⟩
  obtain ⟨cq165, kq165, q165a, q165b, q165c⟩ := isOf hZ e144 F149
  obtain ⟨_, _, ⟨T165, L165, k165, n165⟩, -, X165, ⟨Lc165, hQ165, l165, y165, z165⟩, st165⟩ := X144.interfaceBack hx (xi := (⟨"java/util/List", "get", "(I)Ljava/lang/Object;"⟩ : MethodName)) (y := (⟨"java/util/ArrayList", "get", "(I)Ljava/lang/Object;"⟩ : MethodName)) hown (mvT hZ (hw _ (gw 119 rfl))) (mvT hZ (hw _ (gw 120 rfl))) (mvT hZ (hw _ (gw 121 rfl))) (mvT hZ (hw _ (gw 122 rfl))) (mvT hZ (hw _ (gw 123 rfl))) (mvT hZ (hw _ (gw 124 rfl))) (mvT hZ (hw _ (gw 125 rfl))) (mvT hZ (hw _ (gw 41 rfl))) (by decide) (backOf (W := 1) (rm_get l Z a0 hw [] r1 (3 : Int32) (4 : Int32) ed x3 f h144 n0 Z144 F149 F151 F152 F150 (by decide) hf3 (by decide) (by decide)) hZ (hw _ (gw 126 rfl)) (hw _ (gw 3 rfl)) (by decide) (by decide)) q165a q165b q165c (g := (mkF m 46 #[.val (.ref r0), .val (.ref r1), .val (.int v60_2), .val (.int (0 : Int32)), .val (.int (3 : Int32))] [(.int (3 : Int32)), (.ref r1), (.int v60_2)])) rfl (by rw [hml]; rfl) (Steps.refl _) (argsL := [(.int (3 : Int32))]) (rest := [(.int v60_2)]) (lenOf dn4_pd1 rfl) rfl (by show 2 * 0 + _ ≤ _; exact Nat.le_of_eq rfl) (hb hby dn_d46) (fun _ _ => ⟨rfl, e144, (by decide : 1 + 0 ≤ _), (by decide : 4 + 0 ≤ _)⟩)
  dsimp only [Pt.U, Pt.locs, Pt.cells, Pt.slots] at X165 l165 y165 z165 st165 hQ165
  rw [l165, y165, z165] at X165
  obtain ⟨rfl, N165q, e165⟩ := hQ165
  have N165 := Fr.app N144 N165q
  obtain ⟨T166, X166, e166, st166⟩ := castY X165 hx hZ hown (hw _ (gw 140 rfl)) e165 (Ins.self F162) (g := (mkF m 51 #[.val (.ref r0), .val (.ref r1), .val (.int v60_2), .val (.int (0 : Int32)), .val (.int (3 : Int32))] [(.ref x3), (.int v60_2)])) rfl rfl (hb hby dn_d51)
  obtain ⟨cq167, kq167, q167a, q167b, q167c⟩ := isOf hZ e166 F162
  obtain ⟨_, _, ⟨T167, L167, k167, n167⟩, -, X167, ⟨Lc167, hQ167, l167, y167, z167⟩, st167⟩ := X166.virtualBack hx (y := (⟨"com/example/termwright/termwright/Commit$Segment", "documentCount", "()I"⟩ : MethodName)) (z := (⟨"com/example/termwright/termwright/Commit$Segment", "documentCount", "()I"⟩ : MethodName)) hown (mvT hZ (hw _ (gw 142 rfl))) (mvT hZ (hw _ (gw 143 rfl))) (notFace_of_selects (args := #[]) (mvT hZ (hw _ (gw 145 rfl)))) (mvT hZ (hw _ (gw 145 rfl))) (mvT hZ (hw _ (gw 144 rfl))) (by decide) (backOf (W := 1) (rm_dcn l Z a0 hw [] x3 d3 h144 n0 Z144 F163) hZ (hw _ (gw 146 rfl)) (hw _ (gw 59 rfl)) (by decide) (by decide)) q167a q167c (g := (mkF m 54 #[.val (.ref r0), .val (.ref r1), .val (.int v60_2), .val (.int (0 : Int32)), .val (.int (3 : Int32))] [(.ref x3), (.int v60_2)])) rfl (by rw [hml]; rfl) (Steps.refl _) (argsL := []) (rest := [(.int v60_2)]) (lenOf dn4_pd0 rfl) rfl (by show 2 * 0 + _ ≤ _; exact Nat.le_of_eq rfl) (hb hby dn_d54) (fun _ _ => ⟨rfl, e166, (by decide : 1 + 0 ≤ _), (by decide : 4 + 0 ≤ _)⟩)
  dsimp only [Pt.U, Pt.locs, Pt.cells, Pt.slots] at X167 l167 y167 z167 st167 hQ167
  rw [l167, y167, z167] at X167
  obtain ⟨rfl, N167q, e167⟩ := hQ167
  have N167 := Fr.app N165 N167q
  obtain ⟨_, _, ⟨T168, L168, k168, n168⟩, -, X168, ⟨Lc168, hQ168, l168, y168, z168⟩, st168⟩ := Jvm.LawKit.callS X167 hx (y := (⟨"java/lang/Math", "addExact", "(II)I"⟩ : MethodName)) hown (mvT hZ (hw _ (gw 147 rfl))) (mvT hZ (hw _ (gw 148 rfl))) (mvT hZ (hw _ (gw 114 rfl))) (mvT hZ (hw _ (gw 149 rfl))) (by decide) (backOf (W := 0) (rm_adx l Z a0 hw [] v60_2 d3 h144 n0 Z144 (by rw [hv60_2, hv60_1, hv60]; exact hs3)) hZ (hw _ (gw 149 rfl)) (hw _ (gw 114 rfl)) (by decide) (by decide)) (g := (mkF m 57 #[.val (.ref r0), .val (.ref r1), .val (.int v60_2), .val (.int (0 : Int32)), .val (.int (3 : Int32))] [(.int d3), (.int v60_2)])) rfl (by rw [hml]; rfl) (argsL := [(.int v60_2), (.int d3)]) (rest := []) (lenOf dn4_pd2 rfl) rfl (by show 2 * 0 + _ ≤ _; exact Nat.le_of_eq rfl) (hb hby dn_d57) (fun _ _ => ⟨rfl, e167, (by decide : 1 + 0 ≤ _), (by decide : 4 + 0 ≤ _)⟩)
  dsimp only [Pt.U, Pt.locs, Pt.cells, Pt.slots] at X168 l168 y168 z168 st168 hQ168
  rw [l168, y168, z168] at X168
  obtain ⟨rfl, N168q, e168⟩ := hQ168
  have N168 := Fr.app N167 N168q
  have K169 : ∀ t, Steps p.tables e below (T168.setTop (mkF m 61 #[.val (.ref r0), .val (.ref r1), .val (.int (v60_2 + d3)), .val (.int (0 : Int32)), .val (.int (3 : Int32))] [])) t → P0 t := by
    intro t kt
    refine K138 t ?_
    refine XS.iloadN X136.here hx rfl (hb hby dn_d61) rfl ?_
    refine XS.aloadN X136.here hx rfl (hb hby dn_d62) rfl rfl ?_
    refine XS.iload X136.here hx rfl (hb hby dn_d63) rfl ?_
    show Steps p.tables e below (T136.setTop (mkF m 65 #[.val (.ref r0), .val (.ref r1), .val (.int v60_2), .val (.int (0 : Int32)), .val (.int (2 : Int32))] [(.int (2 : Int32)), (.ref r1), (.int (0 : Int32))])) t
    refine st139.trans ?_
    show Steps p.tables e below (T139.setTop (mkF m 70 #[.val (.ref r0), .val (.ref r1), .val (.int v60_2), .val (.int (0 : Int32)), .val (.int (2 : Int32))] [(.ref x2), (.int (0 : Int32))])) t
    refine st140 _ ?_
    show Steps p.tables e below (T140.setTop (mkF m 73 #[.val (.ref r0), .val (.ref r1), .val (.int v60_2), .val (.int (0 : Int32)), .val (.int (2 : Int32))] [(.ref x2), (.int (0 : Int32))])) t
    refine st141.trans ?_
    show Steps p.tables e below (T141.setTop (mkF m 76 #[.val (.ref r0), .val (.ref r1), .val (.int v60_2), .val (.int (0 : Int32)), .val (.int (2 : Int32))] [(.int (0 : Int32)), (.int (0 : Int32))])) t
    refine XS.iadd X141.here hx rfl (hb hby dn_d76) rfl ?_
    show Steps p.tables e below (T141.setTop (mkF m 77 #[.val (.ref r0), .val (.ref r1), .val (.int v60_2), .val (.int (0 : Int32)), .val (.int (2 : Int32))] [(.int (0 : Int32))])) t
    refine XS.istoreN X141.here hx rfl (hb hby dn_d77) rfl (l' := #[.val (.ref r0), .val (.ref r1), .val (.int v60_2), .val (.int (0 : Int32)), .val (.int (2 : Int32))]) rfl ?_
    show Steps p.tables e below (T141.setTop (mkF m 78 #[.val (.ref r0), .val (.ref r1), .val (.int v60_2), .val (.int (0 : Int32)), .val (.int (2 : Int32))] [])) t
    refine XS.iinc X141.here hx rfl (hb hby dn_d78) rfl (l' := #[.val (.ref r0), .val (.ref r1), .val (.int v60_2), .val (.int (0 : Int32)), .val (.int (3 : Int32))]) rfl ?_
    show Steps p.tables e below (T141.setTop (mkF m 81 #[.val (.ref r0), .val (.ref r1), .val (.int v60_2), .val (.int (0 : Int32)), .val (.int (3 : Int32))] [])) t
    refine XS.goto X141.here hx rfl (pc0 := 81) (pc' := 23) rfl (hb hby dn_d81) (by decide) (by decide) ?_
    refine XS.iload X141.here hx rfl (hb hby dn_d23) rfl ?_
    refine XS.aloadN X141.here hx rfl (hb hby dn_d25) rfl rfl ?_
    show Steps p.tables e below (T141.setTop (mkF m 26 #[.val (.ref r0), .val (.ref r1), .val (.int v60_2), .val (.int (0 : Int32)), .val (.int (3 : Int32))] [(.ref r1), (.int (3 : Int32))])) t
    refine st142.trans ?_
    show Steps p.tables e below (T142.setTop (mkF m 31 #[.val (.ref r0), .val (.ref r1), .val (.int v60_2), .val (.int (0 : Int32)), .val (.int (3 : Int32))] [(.int (4 : Int32)), (.int (3 : Int32))])) t
    refine XS.icmpNo X142.here hx rfl (hb hby dn_d31) rfl (tlt (by decide)).2.1 ?_
    refine XS.aloadN X142.here hx rfl (hb hby dn_d34) rfl rfl ?_
    show Steps p.tables e below (T142.setTop (mkF m 35 #[.val (.ref r0), .val (.ref r1), .val (.int v60_2), .val (.int (0 : Int32)), .val (.int (3 : Int32))] [(.ref r0)])) t
    refine st143 _ ?_
    refine XS.iload X143.here hx rfl (hb hby dn_d38) rfl ?_
    refine XS.iloadN X143.here hx rfl (hb hby dn_d40) rfl ?_
    show Steps p.tables e below (T143.setTop (mkF m 41 #[.val (.ref r0), .val (.ref r1), .val (.int v60_2), .val (.int (0 : Int32)), .val (.int (3 : Int32))] [(.int v60_2), (.int (3 : Int32)), (.ref b11)])) t
    refine st144 _ ?_
    refine XS.iloadN X144.here hx rfl (hb hby dn_d42) rfl ?_
    refine XS.aloadN X144.here hx rfl (hb hby dn_d43) rfl rfl ?_
    refine XS.iload X144.here hx rfl (hb hby dn_d44) rfl ?_
    show Steps p.tables e below (T144.setTop (mkF m 46 #[.val (.ref r0), .val (.ref r1), .val (.int v60_2), .val (.int (0 : Int32)), .val (.int (3 : Int32))] [(.int (3 : Int32)), (.ref r1), (.int v60_2)])) t
    refine st165.trans ?_
    show Steps p.tables e below (T165.setTop (mkF m 51 #[.val (.ref r0), .val (.ref r1), .val (.int v60_2), .val (.int (0 : Int32)), .val (.int (3 : Int32))] [(.ref x3), (.int v60_2)])) t
    refine st166 _ ?_
    show Steps p.tables e below (T166.setTop (mkF m 54 #[.val (.ref r0), .val (.ref r1), .val (.int v60_2), .val (.int (0 : Int32)), .val (.int (3 : Int32))] [(.ref x3), (.int v60_2)])) t
    refine st167.trans ?_
    show Steps p.tables e below (T167.setTop (mkF m 57 #[.val (.ref r0), .val (.ref r1), .val (.int v60_2), .val (.int (0 : Int32)), .val (.int (3 : Int32))] [(.int d3), (.int v60_2)])) t
    refine st168 _ ?_
    show Steps p.tables e below (T168.setTop (mkF m 60 #[.val (.ref r0), .val (.ref r1), .val (.int v60_2), .val (.int (0 : Int32)), .val (.int (3 : Int32))] [(.int (v60_2 + d3))])) t
    refine XS.istoreN X168.here hx rfl (hb hby dn_d60) rfl (l' := #[.val (.ref r0), .val (.ref r1), .val (.int (v60_2 + d3)), .val (.int (0 : Int32)), .val (.int (3 : Int32))]) rfl ?_
    exact kt
  obtain ⟨v60_3, hv60_3, K170⟩ : ∃ v60_3 : Int32, v60_3 = (v60_2 + d3) ∧ ∀ t, Steps p.tables e below (T168.setTop (mkF m 61 #[.val (.ref r0), .val (.ref r1), .val (.int v60_3), .val (.int (0 : Int32)), .val (.int (3 : Int32))] [])) t → P0 t := ⟨_, rfl, K169⟩
  obtain ⟨cq171, kq171, q171a, q171b, q171c⟩ := isOf hZ e168 F149
  obtain ⟨_, _, ⟨T171, L171, k171, n171⟩, -, X171, ⟨Lc171, hQ171, l171, y171, z171⟩, st171⟩ := X168.interfaceBack hx (xi := (⟨"java/util/List", "get", "(I)Ljava/lang/Object;"⟩ : MethodName)) (y := (⟨"java/util/ArrayList", "get", "(I)Ljava/lang/Object;"⟩ : MethodName)) hown (mvT hZ (hw _ (gw 119 rfl))) (mvT hZ (hw _ (gw 120 rfl))) (mvT hZ (hw _ (gw 121 rfl))) (mvT hZ (hw _ (gw 122 rfl))) (mvT hZ (hw _ (gw 123 rfl))) (mvT hZ (hw _ (gw 124 rfl))) (mvT hZ (hw _ (gw 125 rfl))) (mvT hZ (hw _ (gw 41 rfl))) (by decide) (backOf (W := 1) (rm_get l Z a0 hw [] r1 (3 : Int32) (4 : Int32) ed x3 f h144 n0 Z144 F149 F151 F152 F150 (by decide) hf3 (by decide) (by decide)) hZ (hw _ (gw 126 rfl)) (hw _ (gw 3 rfl)) (by decide) (by decide)) q171a q171b q171c (g := (mkF m 65 #[.val (.ref r0), .val (.ref r1), .val (.int v60_3), .val (.int (0 : Int32)), .val (.int (3 : Int32))] [(.int (3 : Int32)), (.ref r1), (.int (0 : Int32))])) rfl (by rw [hml]; rfl) (Steps.refl _) (argsL := [(.int (3 : Int32))]) (rest := [(.int (0 : Int32))]) (lenOf dn4_pd1 rfl) rfl (by show 2 * 0 + _ ≤ _; exact Nat.le_of_eq rfl) (hb hby dn_d65) (fun _ _ => ⟨rfl, e168, (by decide : 1 + 0 ≤ _), (by decide : 4 + 0 ≤ _)⟩)
  dsimp only [Pt.U, Pt.locs, Pt.cells, Pt.slots] at X171 l171 y171 z171 st171 hQ171
  rw [l171, y171, z171] at X171
  obtain ⟨rfl, N171q, e171⟩ := hQ171
  have N171 := Fr.app N168 N171q
  obtain ⟨T172, X172, e172, st172⟩ := castY X171 hx hZ hown (hw _ (gw 140 rfl)) e171 (Ins.self F162) (g := (mkF m 70 #[.val (.ref r0), .val (.ref r1), .val (.int v60_3), .val (.int (0 : Int32)), .val (.int (3 : Int32))] [(.ref x3), (.int (0 : Int32))])) rfl rfl (hb hby dn_d70)
  obtain ⟨cq173, kq173, q173a, q173b, q173c⟩ := isOf hZ e172 F162
  obtain ⟨_, _, ⟨T173, L173, k173, n173⟩, -, X173, ⟨Lc173, hQ173, l173, y173, z173⟩, st173⟩ := X172.virtualBack hx (y := (⟨"com/example/termwright/termwright/Commit$Segment", "deletedCount", "()I"⟩ : MethodName)) (z := (⟨"com/example/termwright/termwright/Commit$Segment", "deletedCount", "()I"⟩ : MethodName)) hown (mvT hZ (hw _ (gw 150 rfl))) (mvT hZ (hw _ (gw 151 rfl))) (notFace_of_selects (args := #[]) (mvT hZ (hw _ (gw 153 rfl)))) (mvT hZ (hw _ (gw 153 rfl))) (mvT hZ (hw _ (gw 152 rfl))) (by decide) (backOf (W := 1) (rm_dlc l Z a0 hw [] x3 h144 n0 Z144 F164) hZ (hw _ (gw 154 rfl)) (hw _ (gw 59 rfl)) (by decide) (by decide)) q173a q173c (g := (mkF m 73 #[.val (.ref r0), .val (.ref r1), .val (.int v60_3), .val (.int (0 : Int32)), .val (.int (3 : Int32))] [(.ref x3), (.int (0 : Int32))])) rfl (by rw [hml]; rfl) (Steps.refl _) (argsL := []) (rest := [(.int (0 : Int32))]) (lenOf dn4_pd0 rfl) rfl (by show 2 * 0 + _ ≤ _; exact Nat.le_of_eq rfl) (hb hby dn_d73) (fun _ _ => ⟨rfl, e172, (by decide : 1 + 0 ≤ _), (by decide : 4 + 0 ≤ _)⟩)
  dsimp only [Pt.U, Pt.locs, Pt.cells, Pt.slots] at X173 l173 y173 z173 st173 hQ173
  rw [l173, y173, z173] at X173
  obtain ⟨rfl, N173q, e173⟩ := hQ173
  have N173 := Fr.app N171 N173q
  obtain ⟨cq174, kq174, q174a, q174b, q174c⟩ := isOf hZ e173 F149
  obtain ⟨_, _, ⟨T174, L174, k174, n174⟩, -, X174, ⟨Lc174, hQ174, l174, y174, z174⟩, st174⟩ := X173.interfaceBack hx (xi := (⟨"java/util/List", "size", "()I"⟩ : MethodName)) (y := (⟨"java/util/ArrayList", "size", "()I"⟩ : MethodName)) hown (mvT hZ (hw _ (gw 34 rfl))) (mvT hZ (hw _ (gw 35 rfl))) (mvT hZ (hw _ (gw 36 rfl))) (mvT hZ (hw _ (gw 37 rfl))) (mvT hZ (hw _ (gw 38 rfl))) (mvT hZ (hw _ (gw 39 rfl))) (mvT hZ (hw _ (gw 40 rfl))) (mvT hZ (hw _ (gw 41 rfl))) (by decide) (backOf (W := 1) (rm_siz l Z a0 hw [] r1 (4 : Int32) h144 n0 Z144 F150) hZ (hw _ (gw 42 rfl)) (hw _ (gw 3 rfl)) (by decide) (by decide)) q174a q174b q174c (g := (mkF m 26 #[.val (.ref r0), .val (.ref r1), .val (.int v60_3), .val (.int (0 : Int32)), .val (.int (4 : Int32))] [(.ref r1), (.int (4 : Int32))])) rfl (by rw [hml]; rfl) (Steps.refl _) (argsL := []) (rest := [(.int (4 : Int32))]) (lenOf dn4_pd0 rfl) rfl (by show 2 * 0 + _ ≤ _; exact Nat.le_of_eq rfl) (hb hby dn_d26) (fun _ _ => ⟨rfl, e173, (by decide : 1 + 0 ≤ _), (by decide : 4 + 0 ≤ _)⟩)
  dsimp only [Pt.U, Pt.locs, Pt.cells, Pt.slots] at X174 l174 y174 z174 st174 hQ174
  rw [l174, y174, z174] at X174
  obtain ⟨rfl, N174q, e174⟩ := hQ174
  have N174 := Fr.app N173 N174q
  obtain ⟨T175, h175, X175, e175, W175, st175⟩ := putF X174 hx hZ hown (host := "") (Or.inl (hw _ (gw 48 rfl))) Via.refl e174 F147 F145 (Or.inr ⟨(hw _ (gw 49 rfl)), rfl, hnm⟩) (hw _ (gw 28 rfl)) (ty := .int) (by decide) rfl rfl (g := (mkF m 86 #[.val (.ref r0), .val (.ref r1), .val (.int v60_3), .val (.int (0 : Int32)), .val (.int (4 : Int32))] [(.int v60_3), (.ref r0)])) rfl rfl (hb hby dn_d86)
  have Z175 : n0 ≤ h175.size := Nat.le_trans Z144 (Keep.of_wr W175).1
  have N175 := Fr.snoc X175 N174 g_r0
  have F176 := Exa.wr W175 F145
  have F177 := Fld.other W175 F146 (Or.inr (slot_ne (Or.inr (hw _ (gw 47 rfl))) (Or.inr (hw _ (gw 49 rfl))) (by decide) (t := (.array .int)) (t' := .int) (by decide) (by decide)))
  have F178 := Fld.other W175 F148 (Or.inr (slot_ne (Or.inr (hw _ (gw 51 rfl))) (Or.inr (hw _ (gw 49 rfl))) (by decide) (t := .int) (t' := .int) (by decide) (by decide)))
  have F179 := Exa.wr W175 F149
  have F180 := Fld.other W175 F150 (Or.inl (Ne.symm n_r0_r1))
  have F181 := Fld.other W175 F151 (Or.inl (Ne.symm n_r0_r1))
  have F182 := F152.other W175 (Ne.symm n_r0_ed)
  have F183 := Exa.wr W175 F153
  have F184 := Fld.other W175 F154 (Or.inl (Ne.symm n_r0_x0))
  have F185 := Fld.other W175 F155 (Or.inl (Ne.symm n_r0_x0))
  have F186 := Exa.wr W175 F156
  have F187 := Fld.other W175 F157 (Or.inl (Ne.symm n_r0_x1))
  have F188 := Fld.other W175 F158 (Or.inl (Ne.symm n_r0_x1))
  have F189 := Exa.wr W175 F159
  have F190 := Fld.other W175 F160 (Or.inl (Ne.symm n_r0_x2))
  have F191 := Fld.other W175 F161 (Or.inl (Ne.symm n_r0_x2))
  have F192 := Exa.wr W175 F162
  have F193 := Fld.other W175 F163 (Or.inl (Ne.symm n_r0_x3))
  have F194 := Fld.other W175 F164 (Or.inl (Ne.symm n_r0_x3))
  have F195 := V144'.other W175 (Ne.symm ne_r0_b11)
  have Kp175 : Keep h0 h175 [r0] := Kp144.wr W175 (Or.inl (List.mem_of_getElem? (i := 0) rfl))
  have F196 : Fld Z h175 r0 "com/example/termwright/termwright/DocumentNumbers" "count" "I" (.int v60_3) := Fld.same W175 F147
  obtain ⟨T197, h197, X197, e197, W197, st197⟩ := putF X175 hx hZ hown (host := "") (Or.inl (hw _ (gw 50 rfl))) Via.refl e175 F178 F176 (Or.inr ⟨(hw _ (gw 51 rfl)), rfl, hnm⟩) (hw _ (gw 28 rfl)) (ty := .int) (by decide) rfl rfl (g := (mkF m 91 #[.val (.ref r0), .val (.ref r1), .val (.int v60_3), .val (.int (0 : Int32)), .val (.int (4 : Int32))] [(.int (0 : Int32)), (.ref r0)])) rfl rfl (hb hby dn_d91)
  have Z197 : n0 ≤ h197.size := Nat.le_trans Z175 (Keep.of_wr W197).1
  have N197 := Fr.snoc X197 N175 g_r0
  have F198 := Exa.wr W197 F176
  have F199 := Fld.other W197 F177 (Or.inr (slot_ne (Or.inr (hw _ (gw 47 rfl))) (Or.inr (hw _ (gw 51 rfl))) (by decide) (t := (.array .int)) (t' := .int) (by decide) (by decide)))
  have F200 := Fld.other W197 F196 (Or.inr (slot_ne (Or.inr (hw _ (gw 49 rfl))) (Or.inr (hw _ (gw 51 rfl))) (by decide) (t := .int) (t' := .int) (by decide) (by decide)))
  have F201 := Exa.wr W197 F179
  have F202 := Fld.other W197 F180 (Or.inl (Ne.symm n_r0_r1))
  have F203 := Fld.other W197 F181 (Or.inl (Ne.symm n_r0_r1))
  have F204 := F182.other W197 (Ne.symm n_r0_ed)
  have F205 := Exa.wr W197 F183
  have F206 := Fld.other W197 F184 (Or.inl (Ne.symm n_r0_x0))
  have F207 := Fld.other W197 F185 (Or.inl (Ne.symm n_r0_x0))
  have F208 := Exa.wr W197 F186
  have F209 := Fld.other W197 F187 (Or.inl (Ne.symm n_r0_x1))
  have F210 := Fld.other W197 F188 (Or.inl (Ne.symm n_r0_x1))
  have F211 := Exa.wr W197 F189
  have F212 := Fld.other W197 F190 (Or.inl (Ne.symm n_r0_x2))
  have F213 := Fld.other W197 F191 (Or.inl (Ne.symm n_r0_x2))
  have F214 := Exa.wr W197 F192
  have F215 := Fld.other W197 F193 (Or.inl (Ne.symm n_r0_x3))
  have F216 := Fld.other W197 F194 (Or.inl (Ne.symm n_r0_x3))
  have F217 := F195.other W197 (Ne.symm ne_r0_b11)
  have Kp197 : Keep h0 h197 [r0] := Kp175.wr W197 (Or.inl (List.mem_of_getElem? (i := 0) rfl))
  have F218 : Fld Z h197 r0 "com/example/termwright/termwright/DocumentNumbers" "deletedCount" "I" (.int (0 : Int32)) := Fld.same W197 F178
  have K219 : ∀ t, Steps p.tables e below (T197.setTop (mkF m 94 #[.val (.ref r0), .val (.ref r1), .val (.int v60_3), .val (.int (0 : Int32)), .val (.int (4 : Int32))] [])) t → P0 t := by
    intro t kt
    refine K170 t ?_
    refine XS.iloadN X168.here hx rfl (hb hby dn_d61) rfl ?_
    refine XS.aloadN X168.here hx rfl (hb hby dn_d62) rfl rfl ?_
    refine XS.iload X168.here hx rfl (hb hby dn_d63) rfl ?_
    show Steps p.tables e below (T168.setTop (mkF m 65 #[.val (.ref r0), .val (.ref r1), .val (.int v60_3), .val (.int (0 : Int32)), .val (.int (3 : Int32))] [(.int (3 : Int32)), (.ref r1), (.int (0 : Int32))])) t
    refine st171.trans ?_
    show Steps p.tables e below (T171.setTop (mkF m 70 #[.val (.ref r0), .val (.ref r1), .val (.int v60_3), .val (.int (0 : Int32)), .val (.int (3 : Int32))] [(.ref x3), (.int (0 : Int32))])) t
    refine st172 _ ?_
    show Steps p.tables e below (T172.setTop (mkF m 73 #[.val (.ref r0), .val (.ref r1), .val (.int v60_3), .val (.int (0 : Int32)), .val (.int (3 : Int32))] [(.ref x3), (.int (0 : Int32))])) t
    refine st173.trans ?_
    show Steps p.tables e below (T173.setTop (mkF m 76 #[.val (.ref r0), .val (.ref r1), .val (.int v60_3), .val (.int (0 : Int32)), .val (.int (3 : Int32))] [(.int (0 : Int32)), (.int (0 : Int32))])) t
    refine XS.iadd X173.here hx rfl (hb hby dn_d76) rfl ?_
    show Steps p.tables e below (T173.setTop (mkF m 77 #[.val (.ref r0), .val (.ref r1), .val (.int v60_3), .val (.int (0 : Int32)), .val (.int (3 : Int32))] [(.int (0 : Int32))])) t
    refine XS.istoreN X173.here hx rfl (hb hby dn_d77) rfl (l' := #[.val (.ref r0), .val (.ref r1), .val (.int v60_3), .val (.int (0 : Int32)), .val (.int (3 : Int32))]) rfl ?_
    show Steps p.tables e below (T173.setTop (mkF m 78 #[.val (.ref r0), .val (.ref r1), .val (.int v60_3), .val (.int (0 : Int32)), .val (.int (3 : Int32))] [])) t
    refine XS.iinc X173.here hx rfl (hb hby dn_d78) rfl (l' := #[.val (.ref r0), .val (.ref r1), .val (.int v60_3), .val (.int (0 : Int32)), .val (.int (4 : Int32))]) rfl ?_
    show Steps p.tables e below (T173.setTop (mkF m 81 #[.val (.ref r0), .val (.ref r1), .val (.int v60_3), .val (.int (0 : Int32)), .val (.int (4 : Int32))] [])) t
    refine XS.goto X173.here hx rfl (pc0 := 81) (pc' := 23) rfl (hb hby dn_d81) (by decide) (by decide) ?_
    refine XS.iload X173.here hx rfl (hb hby dn_d23) rfl ?_
    refine XS.aloadN X173.here hx rfl (hb hby dn_d25) rfl rfl ?_
    show Steps p.tables e below (T173.setTop (mkF m 26 #[.val (.ref r0), .val (.ref r1), .val (.int v60_3), .val (.int (0 : Int32)), .val (.int (4 : Int32))] [(.ref r1), (.int (4 : Int32))])) t
    refine st174.trans ?_
    show Steps p.tables e below (T174.setTop (mkF m 31 #[.val (.ref r0), .val (.ref r1), .val (.int v60_3), .val (.int (0 : Int32)), .val (.int (4 : Int32))] [(.int (4 : Int32)), (.int (4 : Int32))])) t
    refine XS.icmpYes X174.here hx rfl (pc0 := 31) (pc' := 84) rfl (hb hby dn_d31) rfl (flt (by decide)).2.1 (by decide) (by decide) ?_
    refine XS.aloadN X174.here hx rfl (hb hby dn_d84) rfl rfl ?_
    refine XS.iloadN X174.here hx rfl (hb hby dn_d85) rfl ?_
    show Steps p.tables e below (T174.setTop (mkF m 86 #[.val (.ref r0), .val (.ref r1), .val (.int v60_3), .val (.int (0 : Int32)), .val (.int (4 : Int32))] [(.int v60_3), (.ref r0)])) t
    refine st175 _ ?_
    refine XS.aloadN X175.here hx rfl (hb hby dn_d89) rfl rfl ?_
    refine XS.iloadN X175.here hx rfl (hb hby dn_d90) rfl ?_
    show Steps p.tables e below (T175.setTop (mkF m 91 #[.val (.ref r0), .val (.ref r1), .val (.int v60_3), .val (.int (0 : Int32)), .val (.int (4 : Int32))] [(.int (0 : Int32)), (.ref r0)])) t
    refine st197 _ ?_
    exact kt
  obtain ⟨fs, hr, hrun, hended, hW, hsame⟩ := X197.leave (v := none) (fun _ => rfl)
  refine ⟨_, _, ?_, hrun, hended, _, _, rfl, ?_, ⟨_, rfl⟩, hW, hsame.mono (by decide) (by decide)⟩
  · skip
    have q := K219 _ (X197.returnOut hx Bd.returns (hb hby dn_d94) hr)
    rw [hP0] at q; exact q
  · show QDn4 Z r0 d0 d1 d2 d3 h0 n0 _ T197.heap _
    rw [e197]
    subst hf11
    subst hf41
    subst hv60
    subst hf41_1
    subst hv60_1
    subst hf41_2
    subst hv60_2
    subst hf41_3
    subst hv60_3
    exact ⟨b11, rfl, N197, Kp197, sz_b11, F198, F199, F217⟩
theorem se_d0 : decode prog_33_method_6_code 0 = .ok (.iconst 0, 1) := by decide +kernel
theorem se_d1 : decode prog_33_method_6_code 1 = .ok (.istore_n 2, 1) := by decide +kernel
theorem se_d2 : decode prog_33_method_6_code 2 = .ok (.aload_n 0, 1) := by decide +kernel
theorem se_d3 : decode prog_33_method_6_code 3 = .ok (.getfield 13, 3) := by decide +kernel
theorem se_d6 : decode prog_33_method_6_code 6 = .ok (.arraylength, 1) := by decide +kernel
theorem se_d7 : decode prog_33_method_6_code 7 = .ok (.iconst 1, 1) := by decide +kernel
theorem se_d8 : decode prog_33_method_6_code 8 = .ok (.isub, 1) := by decide +kernel
theorem se_d9 : decode prog_33_method_6_code 9 = .ok (.istore_n 3, 1) := by decide +kernel
theorem se_d10 : decode prog_33_method_6_code 10 = .ok (.iload_n 2, 1) := by decide +kernel
theorem se_d11 : decode prog_33_method_6_code 11 = .ok (.iload_n 3, 1) := by decide +kernel
theorem se_d12 : decode prog_33_method_6_code 12 = .ok (.if_icmp .ge 37, 3) := by decide +kernel
theorem se_d49 : decode prog_33_method_6_code 49 = .ok (.iload_n 2, 1) := by decide +kernel
theorem se_d50 : decode prog_33_method_6_code 50 = .ok (.ireturn, 1) := by decide +kernel
theorem se0_pn : plainName "com/example/termwright/termwright/DocumentNumbers" = true := by first | (simp [plainName, overriddenIn]; done) | decide +kernel
theorem se0_ef (m : MethodId) (x0 : Addr) (x1 : Int32) : entryFrame m #[(.ref x0), (.int x1)] 5 = mkF m 0 #[.val (.ref x0), .val (.int x1), .unset, .unset, .unset] [] := by first | (simp [entryFrame, mkF, argsToLocals, Value.category]; done) | rfl
def fSeg0 (p1 : Int32) (f : Nat → Int32) : Int32 :=
  (0 : Int32)
set_option maxRecDepth 65536 in
set_option maxHeartbeats 40000000 in
theorem rm_se0 (l : Launch) (Z : State) (a0 : Array Value) (hw : ∀ d ∈ tables_1, d.before a0 Z = true) (ws : List Jvm.Cond) (r0 : Addr) (p1 : Int32) (b : Addr) (f : Nat → Int32) (h0 : Heap) (n0 : Nat) (Z0 : n0 ≤ h0.size) (H0 : Fld Z h0 r0 "com/example/termwright/termwright/DocumentNumbers" "bases" "[I" (.ref b)) (H1 : IA Z h0 b .int 0 f) :
    MetFree l (⟨"com/example/termwright/termwright/DocumentNumbers", "segmentOf", "(I)I"⟩ : MethodName) (head1 (Jvm.Cond.code (⟨"com/example/termwright/termwright/DocumentNumbers", "segmentOf", "(I)I"⟩ : MethodName) prog_33_method_6_code 5 (some .int) :: ws) ({ frames := 0, cells := 0, slots := 0, locals := 0 } : Room)) (fun a U => a = #[(.ref r0), (.int p1)] ∧ Z.Warmed39 U.vm ∧ U.heap = h0) (fun _ _ _ _ _ => True) (fun _ U o U' => ∃ v L, o = .returned v ∧ QP (.int (fSeg0 p1 f)) h0 n0 v U'.heap L ∧ FrameEnd U o U' L ({ frames := 0, cells := 0, slots := 0, locals := 0 } : Room).cells ({ frames := 0, cells := 0, slots := 0, locals := 0 } : Room).slots) := by
  refine MetFree.of_bodySF (plainFor_of_name se0_pn) hisR ?_
  intro p e s m args below meth c s₁ Bd hml0 hP hK
  obtain ⟨rfl, hZ, hh⟩ := hP
  have hx := Bd.exec
  have hby := Bd.bytes
  have hml : c.maxLocals = 5 := hml0
  have hown : s.vm.findClass "com/example/termwright/termwright/DocumentNumbers" = some m.cls := findClass_of_methodNamed Bd.named
  have hnm := (name_of_methodNamed Bd.named Bd.method).1
  have X0 : Stand p l e ({ frames := 0, cells := 0, slots := 0, locals := 0 } : Room) s m #[(.ref r0), (.int p1)] below meth c s₁ [] 0 0 := Stand.of_body Bd
  have e0 : s₁.heap = h0 := by rw [← hh, Bd.state]; rfl
  have N0 := Fr.nil n0
  obtain ⟨P0, hP0⟩ : ∃ P0 : State → Prop, P0 = fun t => Steps p.tables e below (s₁.setTop (entryFrame m #[(.ref r0), (.int p1)] 5)) t := ⟨_, rfl⟩
  have K0 : ∀ t, Steps p.tables e below (s₁.setTop (mkF m 0 #[.val (.ref r0), .val (.int p1), .unset, .unset, .unset] [])) t → P0 t := by
    intro t k; rw [hP0]; exact castTop (se0_ef m r0 p1) k
  obtain ⟨T1, X1, e1, st1⟩ := getF X0 hx hZ hown (host := "") (Or.inl (hw _ (gw 46 rfl))) Via.refl e0 H0 (g := (mkF m 3 #[.val (.ref r0), .val (.int p1), .val (.int (0 : Int32)), .unset, .unset] [(.ref r0)])) rfl rfl (hb hby se_d3)
  have K2 : ∀ t, Steps p.tables e below (T1.setTop (mkF m 50 #[.val (.ref r0), .val (.int p1), .val (.int (0 : Int32)), .val (.int (-1 : Int32)), .unset] [(.int (0 : Int32))])) t → P0 t := by
    intro t kt
    refine K0 t ?_
    refine XS.iconst X0.here hx rfl (hb hby se_d0) ?_
    show Steps p.tables e below (s₁.setTop (mkF m 1 #[.val (.ref r0), .val (.int p1), .unset, .unset, .unset] [(.int (0 : Int32))])) t
    refine XS.istoreN X0.here hx rfl (hb hby se_d1) rfl (l' := #[.val (.ref r0), .val (.int p1), .val (.int (0 : Int32)), .unset, .unset]) rfl ?_
    refine XS.aloadN X0.here hx rfl (hb hby se_d2) rfl rfl ?_
    show Steps p.tables e below (s₁.setTop (mkF m 3 #[.val (.ref r0), .val (.int p1), .val (.int (0 : Int32)), .unset, .unset] [(.ref r0)])) t
    refine st1 _ ?_
    show Steps p.tables e below (T1.setTop (mkF m 6 #[.val (.ref r0), .val (.int p1), .val (.int (0 : Int32)), .unset, .unset] [(.ref b)])) t
    refine lnIA X1 hx hZ e1 H1 (z := (0 : Int32)) (by decide) (g := (mkF m 6 #[.val (.ref r0), .val (.int p1), .val (.int (0 : Int32)), .unset, .unset] [(.ref b)])) rfl rfl (hb hby se_d6) _ ?_
    refine XS.iconst X1.here hx rfl (hb hby se_d7) ?_
    show Steps p.tables e below (T1.setTop (mkF m 8 #[.val (.ref r0), .val (.int p1), .val (.int (0 : Int32)), .unset, .unset] [(.int (1 : Int32)), (.int (0 : Int32))])) t
    refine XS.isub X1.here hx rfl (hb hby se_d8) rfl ?_
    show Steps p.tables e below (T1.setTop (mkF m 9 #[.val (.ref r0), .val (.int p1), .val (.int (0 : Int32)), .unset, .unset] [(.int (-1 : Int32))])) t
    refine XS.istoreN X1.here hx rfl (hb hby se_d9) rfl (l' := #[.val (.ref r0), .val (.int p1), .val (.int (0 : Int32)), .val (.int (-1 : Int32)), .unset]) rfl ?_
    refine XS.iloadN X1.here hx rfl (hb hby se_d10) rfl ?_
    refine XS.iloadN X1.here hx rfl (hb hby se_d11) rfl ?_
    show Steps p.tables e below (T1.setTop (mkF m 12 #[.val (.ref r0), .val (.int p1), .val (.int (0 : Int32)), .val (.int (-1 : Int32)), .unset] [(.int (-1 : Int32)), (.int (0 : Int32))])) t
    refine XS.icmpYes X1.here hx rfl (pc0 := 12) (pc' := 49) rfl (hb hby se_d12) rfl (flt (by decide)).2.1 (by decide) (by decide) ?_
    refine XS.iloadN X1.here hx rfl (hb hby se_d49) rfl ?_
    exact kt
  obtain ⟨fs, hr, hrun, hended, hW, hsame⟩ := X1.leave (v := some (.int (0 : Int32))) (fun h => by rw [Bd.returns] at h; cases h)
  refine ⟨_, _, ?_, hrun, hended, _, _, rfl, ?_, ⟨_, rfl⟩, hW, hsame.mono (by decide) (by decide)⟩
  · skip
    have q := K2 _ (retI X1 hx Bd.returns (hb hby se_d50) hr)
    rw [hP0] at q; exact q
  · show QP (.int (fSeg0 p1 f)) h0 n0 _ T1.heap _
    rw [e1]
    exact ⟨rfl, N0, rfl⟩
theorem se1_pn : plainName "com/example/termwright/termwright/DocumentNumbers" = true := by first | (simp [plainName, overriddenIn]; done) | decide +kernel
theorem se1_ef (m : MethodId) (x0 : Addr) (x1 : Int32) : entryFrame m #[(.ref x0), (.int x1)] 5 = mkF m 0 #[.val (.ref x0), .val (.int x1), .unset, .unset, .unset] [] := by first | (simp [entryFrame, mkF, argsToLocals, Value.category]; done) | rfl
def fSeg1 (p1 : Int32) (f : Nat → Int32) : Int32 :=
  (0 : Int32)
set_option maxRecDepth 65536 in
set_option maxHeartbeats 40000000 in
theorem rm_se1 (l : Launch) (Z : State) (a0 : Array Value) (hw : ∀ d ∈ tables_1, d.before a0 Z = true) (ws : List Jvm.Cond) (r0 : Addr) (p1 : Int32) (b : Addr) (f : Nat → Int32) (h0 : Heap) (n0 : Nat) (Z0 : n0 ≤ h0.size) (H0 : Fld Z h0 r0 "com/example/termwright/termwright/DocumentNumbers" "bases" "[I" (.ref b)) (H1 : IA Z h0 b .int 1 f) :
    MetFree l (⟨"com/example/termwright/termwright/DocumentNumbers", "segmentOf", "(I)I"⟩ : MethodName) (head1 (Jvm.Cond.code (⟨"com/example/termwright/termwright/DocumentNumbers", "segmentOf", "(I)I"⟩ : MethodName) prog_33_method_6_code 5 (some .int) :: ws) ({ frames := 0, cells := 0, slots := 0, locals := 0 } : Room)) (fun a U => a = #[(.ref r0), (.int p1)] ∧ Z.Warmed39 U.vm ∧ U.heap = h0) (fun _ _ _ _ _ => True) (fun _ U o U' => ∃ v L, o = .returned v ∧ QP (.int (fSeg1 p1 f)) h0 n0 v U'.heap L ∧ FrameEnd U o U' L ({ frames := 0, cells := 0, slots := 0, locals := 0 } : Room).cells ({ frames := 0, cells := 0, slots := 0, locals := 0 } : Room).slots) := by
  refine MetFree.of_bodySF (plainFor_of_name se1_pn) hisR ?_
  intro p e s m args below meth c s₁ Bd hml0 hP hK
  obtain ⟨rfl, hZ, hh⟩ := hP
  have hx := Bd.exec
  have hby := Bd.bytes
  have hml : c.maxLocals = 5 := hml0
  have hown : s.vm.findClass "com/example/termwright/termwright/DocumentNumbers" = some m.cls := findClass_of_methodNamed Bd.named
  have hnm := (name_of_methodNamed Bd.named Bd.method).1
  have X0 : Stand p l e ({ frames := 0, cells := 0, slots := 0, locals := 0 } : Room) s m #[(.ref r0), (.int p1)] below meth c s₁ [] 0 0 := Stand.of_body Bd
  have e0 : s₁.heap = h0 := by rw [← hh, Bd.state]; rfl
  have N0 := Fr.nil n0
  obtain ⟨P0, hP0⟩ : ∃ P0 : State → Prop, P0 = fun t => Steps p.tables e below (s₁.setTop (entryFrame m #[(.ref r0), (.int p1)] 5)) t := ⟨_, rfl⟩
  have K0 : ∀ t, Steps p.tables e below (s₁.setTop (mkF m 0 #[.val (.ref r0), .val (.int p1), .unset, .unset, .unset] [])) t → P0 t := by
    intro t k; rw [hP0]; exact castTop (se1_ef m r0 p1) k
  obtain ⟨T1, X1, e1, st1⟩ := getF X0 hx hZ hown (host := "") (Or.inl (hw _ (gw 46 rfl))) Via.refl e0 H0 (g := (mkF m 3 #[.val (.ref r0), .val (.int p1), .val (.int (0 : Int32)), .unset, .unset] [(.ref r0)])) rfl rfl (hb hby se_d3)
  have K2 : ∀ t, Steps p.tables e below (T1.setTop (mkF m 50 #[.val (.ref r0), .val (.int p1), .val (.int (0 : Int32)), .val (.int (0 : Int32)), .unset] [(.int (0 : Int32))])) t → P0 t := by
    intro t kt
    refine K0 t ?_
    refine XS.iconst X0.here hx rfl (hb hby se_d0) ?_
    show Steps p.tables e below (s₁.setTop (mkF m 1 #[.val (.ref r0), .val (.int p1), .unset, .unset, .unset] [(.int (0 : Int32))])) t
    refine XS.istoreN X0.here hx rfl (hb hby se_d1) rfl (l' := #[.val (.ref r0), .val (.int p1), .val (.int (0 : Int32)), .unset, .unset]) rfl ?_
    refine XS.aloadN X0.here hx rfl (hb hby se_d2) rfl rfl ?_
    show Steps p.tables e below (s₁.setTop (mkF m 3 #[.val (.ref r0), .val (.int p1), .val (.int (0 : Int32)), .unset, .unset] [(.ref r0)])) t
    refine st1 _ ?_
    show Steps p.tables e below (T1.setTop (mkF m 6 #[.val (.ref r0), .val (.int p1), .val (.int (0 : Int32)), .unset, .unset] [(.ref b)])) t
    refine lnIA X1 hx hZ e1 H1 (z := (1 : Int32)) (by decide) (g := (mkF m 6 #[.val (.ref r0), .val (.int p1), .val (.int (0 : Int32)), .unset, .unset] [(.ref b)])) rfl rfl (hb hby se_d6) _ ?_
    refine XS.iconst X1.here hx rfl (hb hby se_d7) ?_
    show Steps p.tables e below (T1.setTop (mkF m 8 #[.val (.ref r0), .val (.int p1), .val (.int (0 : Int32)), .unset, .unset] [(.int (1 : Int32)), (.int (1 : Int32))])) t
    refine XS.isub X1.here hx rfl (hb hby se_d8) rfl ?_
    show Steps p.tables e below (T1.setTop (mkF m 9 #[.val (.ref r0), .val (.int p1), .val (.int (0 : Int32)), .unset, .unset] [(.int (0 : Int32))])) t
    refine XS.istoreN X1.here hx rfl (hb hby se_d9) rfl (l' := #[.val (.ref r0), .val (.int p1), .val (.int (0 : Int32)), .val (.int (0 : Int32)), .unset]) rfl ?_
    refine XS.iloadN X1.here hx rfl (hb hby se_d10) rfl ?_
    refine XS.iloadN X1.here hx rfl (hb hby se_d11) rfl ?_
    show Steps p.tables e below (T1.setTop (mkF m 12 #[.val (.ref r0), .val (.int p1), .val (.int (0 : Int32)), .val (.int (0 : Int32)), .unset] [(.int (0 : Int32)), (.int (0 : Int32))])) t
    refine XS.icmpYes X1.here hx rfl (pc0 := 12) (pc' := 49) rfl (hb hby se_d12) rfl (flt (by decide)).2.1 (by decide) (by decide) ?_
    refine XS.iloadN X1.here hx rfl (hb hby se_d49) rfl ?_
    exact kt
  obtain ⟨fs, hr, hrun, hended, hW, hsame⟩ := X1.leave (v := some (.int (0 : Int32))) (fun h => by rw [Bd.returns] at h; cases h)
  refine ⟨_, _, ?_, hrun, hended, _, _, rfl, ?_, ⟨_, rfl⟩, hW, hsame.mono (by decide) (by decide)⟩
  · skip
    have q := K2 _ (retI X1 hx Bd.returns (hb hby se_d50) hr)
    rw [hP0] at q; exact q
  · show QP (.int (fSeg1 p1 f)) h0 n0 _ T1.heap _
    rw [e1]
    exact ⟨rfl, N0, rfl⟩
theorem se_d15 : decode prog_33_method_6_code 15 = .ok (.iload_n 2, 1) := by decide +kernel
theorem se_d16 : decode prog_33_method_6_code 16 = .ok (.iload_n 3, 1) := by decide +kernel
theorem se_d17 : decode prog_33_method_6_code 17 = .ok (.iadd, 1) := by decide +kernel
theorem se_d18 : decode prog_33_method_6_code 18 = .ok (.iconst 1, 1) := by decide +kernel
theorem se_d19 : decode prog_33_method_6_code 19 = .ok (.iadd, 1) := by decide +kernel
theorem se_d20 : decode prog_33_method_6_code 20 = .ok (.iconst 1, 1) := by decide +kernel
theorem se_d21 : decode prog_33_method_6_code 21 = .ok (.iushr, 1) := by decide +kernel
theorem se_d22 : decode prog_33_method_6_code 22 = .ok (.istore 4, 2) := by decide +kernel
theorem se_d24 : decode prog_33_method_6_code 24 = .ok (.aload_n 0, 1) := by decide +kernel
theorem se_d25 : decode prog_33_method_6_code 25 = .ok (.getfield 13, 3) := by decide +kernel
theorem se_d28 : decode prog_33_method_6_code 28 = .ok (.iload 4, 2) := by decide +kernel
theorem se_d30 : decode prog_33_method_6_code 30 = .ok (.iaload, 1) := by decide +kernel
theorem se_d31 : decode prog_33_method_6_code 31 = .ok (.iload_n 1, 1) := by decide +kernel
theorem se_d32 : decode prog_33_method_6_code 32 = .ok (.if_icmp .gt 9, 3) := by decide +kernel
theorem se_d35 : decode prog_33_method_6_code 35 = .ok (.iload 4, 2) := by decide +kernel
theorem se_d37 : decode prog_33_method_6_code 37 = .ok (.istore_n 2, 1) := by decide +kernel
theorem se_d38 : decode prog_33_method_6_code 38 = .ok (.goto 8, 3) := by decide +kernel
theorem se_d41 : decode prog_33_method_6_code 41 = .ok (.iload 4, 2) := by decide +kernel
theorem se_d43 : decode prog_33_method_6_code 43 = .ok (.iconst 1, 1) := by decide +kernel
theorem se_d44 : decode prog_33_method_6_code 44 = .ok (.isub, 1) := by decide +kernel
theorem se_d45 : decode prog_33_method_6_code 45 = .ok (.istore_n 3, 1) := by decide +kernel
theorem se_d46 : decode prog_33_method_6_code 46 = .ok (.goto (-36), 3) := by decide +kernel
theorem se2_pn : plainName "com/example/termwright/termwright/DocumentNumbers" = true := by first | (simp [plainName, overriddenIn]; done) | decide +kernel
theorem se2_ef (m : MethodId) (x0 : Addr) (x1 : Int32) : entryFrame m #[(.ref x0), (.int x1)] 5 = mkF m 0 #[.val (.ref x0), .val (.int x1), .unset, .unset, .unset] [] := by first | (simp [entryFrame, mkF, argsToLocals, Value.category]; done) | rfl
def fSeg2 (p1 : Int32) (f : Nat → Int32) : Int32 :=
  let jx32 : Int32 := (if p1 < (f ((1 : Int32)).toNatClampNeg) then (0 : Int32) else (1 : Int32))
  jx32
set_option maxRecDepth 65536 in
set_option maxHeartbeats 40000000 in
theorem rm_se2 (l : Launch) (Z : State) (a0 : Array Value) (hw : ∀ d ∈ tables_1, d.before a0 Z = true) (ws : List Jvm.Cond) (r0 : Addr) (p1 : Int32) (b : Addr) (f : Nat → Int32) (h0 : Heap) (n0 : Nat) (Z0 : n0 ≤ h0.size) (H0 : Fld Z h0 r0 "com/example/termwright/termwright/DocumentNumbers" "bases" "[I" (.ref b)) (H1 : IA Z h0 b .int 2 f) :
    MetFree l (⟨"com/example/termwright/termwright/DocumentNumbers", "segmentOf", "(I)I"⟩ : MethodName) (head1 (Jvm.Cond.code (⟨"com/example/termwright/termwright/DocumentNumbers", "segmentOf", "(I)I"⟩ : MethodName) prog_33_method_6_code 5 (some .int) :: ws) ({ frames := 0, cells := 0, slots := 0, locals := 0 } : Room)) (fun a U => a = #[(.ref r0), (.int p1)] ∧ Z.Warmed39 U.vm ∧ U.heap = h0) (fun _ _ _ _ _ => True) (fun _ U o U' => ∃ v L, o = .returned v ∧ QP (.int (fSeg2 p1 f)) h0 n0 v U'.heap L ∧ FrameEnd U o U' L ({ frames := 0, cells := 0, slots := 0, locals := 0 } : Room).cells ({ frames := 0, cells := 0, slots := 0, locals := 0 } : Room).slots) := by
  refine MetFree.of_bodySF (plainFor_of_name se2_pn) hisR ?_
  intro p e s m args below meth c s₁ Bd hml0 hP hK
  obtain ⟨rfl, hZ, hh⟩ := hP
  have hx := Bd.exec
  have hby := Bd.bytes
  have hml : c.maxLocals = 5 := hml0
  have hown : s.vm.findClass "com/example/termwright/termwright/DocumentNumbers" = some m.cls := findClass_of_methodNamed Bd.named
  have hnm := (name_of_methodNamed Bd.named Bd.method).1
  have X0 : Stand p l e ({ frames := 0, cells := 0, slots := 0, locals := 0 } : Room) s m #[(.ref r0), (.int p1)] below meth c s₁ [] 0 0 := Stand.of_body Bd
  have e0 : s₁.heap = h0 := by rw [← hh, Bd.state]; rfl
  have N0 := Fr.nil n0
  obtain ⟨P0, hP0⟩ : ∃ P0 : State → Prop, P0 = fun t => Steps p.tables e below (s₁.setTop (entryFrame m #[(.ref r0), (.int p1)] 5)) t := ⟨_, rfl⟩
  have K0 : ∀ t, Steps p.tables e below (s₁.setTop (mkF m 0 #[.val (.ref r0), .val (.int p1), .unset, .unset, .unset] [])) t → P0 t := by
    intro t k; rw [hP0]; exact castTop (se2_ef m r0 p1) k
  obtain ⟨T1, X1, e1, st1⟩ := getF X0 hx hZ hown (host := "") (Or.inl (hw _ (gw 46 rfl))) Via.refl e0 H0 (g := (mkF m 3 #[.val (.ref r0), .val (.int p1), .val (.int (0 : Int32)), .unset, .unset] [(.ref r0)])) rfl rfl (hb hby se_d3)
  obtain ⟨T2, X2, e2, st2⟩ := getF X1 hx hZ hown (host := "") (Or.inl (hw _ (gw 46 rfl))) Via.refl e1 H0 (g := (mkF m 25 #[.val (.ref r0), .val (.int p1), .val (.int (0 : Int32)), .val (.int (1 : Int32)), .val (.int (1 : Int32))] [(.ref r0)])) rfl rfl (hb hby se_d25)
  have K3 : ∀ t, Steps p.tables e below (T2.setTop (mkF m 32 #[.val (.ref r0), .val (.int p1), .val (.int (0 : Int32)), .val (.int (1 : Int32)), .val (.int (1 : Int32))] [(.int p1), (.int (f ((1 : Int32)).toNatClampNeg))])) t → P0 t := by
    intro t kt
    refine K0 t ?_
    refine XS.iconst X0.here hx rfl (hb hby se_d0) ?_
    show Steps p.tables e below (s₁.setTop (mkF m 1 #[.val (.ref r0), .val (.int p1), .unset, .unset, .unset] [(.int (0 : Int32))])) t
    refine XS.istoreN X0.here hx rfl (hb hby se_d1) rfl (l' := #[.val (.ref r0), .val (.int p1), .val (.int (0 : Int32)), .unset, .unset]) rfl ?_
    refine XS.aloadN X0.here hx rfl (hb hby se_d2) rfl rfl ?_
    show Steps p.tables e below (s₁.setTop (mkF m 3 #[.val (.ref r0), .val (.int p1), .val (.int (0 : Int32)), .unset, .unset] [(.ref r0)])) t
    refine st1 _ ?_
    show Steps p.tables e below (T1.setTop (mkF m 6 #[.val (.ref r0), .val (.int p1), .val (.int (0 : Int32)), .unset, .unset] [(.ref b)])) t
    refine lnIA X1 hx hZ e1 H1 (z := (2 : Int32)) (by decide) (g := (mkF m 6 #[.val (.ref r0), .val (.int p1), .val (.int (0 : Int32)), .unset, .unset] [(.ref b)])) rfl rfl (hb hby se_d6) _ ?_
    refine XS.iconst X1.here hx rfl (hb hby se_d7) ?_
    show Steps p.tables e below (T1.setTop (mkF m 8 #[.val (.ref r0), .val (.int p1), .val (.int (0 : Int32)), .unset, .unset] [(.int (1 : Int32)), (.int (2 : Int32))])) t
    refine XS.isub X1.here hx rfl (hb hby se_d8) rfl ?_
    show Steps p.tables e below (T1.setTop (mkF m 9 #[.val (.ref r0), .val (.int p1), .val (.int (0 : Int32)), .unset, .unset] [(.int (1 : Int32))])) t
    refine XS.istoreN X1.here hx rfl (hb hby se_d9) rfl (l' := #[.val (.ref r0), .val (.int p1), .val (.int (0 : Int32)), .val (.int (1 : Int32)), .unset]) rfl ?_
    refine XS.iloadN X1.here hx rfl (hb hby se_d10) rfl ?_
    refine XS.iloadN X1.here hx rfl (hb hby se_d11) rfl ?_
    show Steps p.tables e below (T1.setTop (mkF m 12 #[.val (.ref r0), .val (.int p1), .val (.int (0 : Int32)), .val (.int (1 : Int32)), .unset] [(.int (1 : Int32)), (.int (0 : Int32))])) t
    refine XS.icmpNo X1.here hx rfl (hb hby se_d12) rfl (tlt (by decide)).2.1 ?_
    refine XS.iloadN X1.here hx rfl (hb hby se_d15) rfl ?_
    refine XS.iloadN X1.here hx rfl (hb hby se_d16) rfl ?_
    show Steps p.tables e below (T1.setTop (mkF m 17 #[.val (.ref r0), .val (.int p1), .val (.int (0 : Int32)), .val (.int (1 : Int32)), .unset] [(.int (1 : Int32)), (.int (0 : Int32))])) t
    refine XS.iadd X1.here hx rfl (hb hby se_d17) rfl ?_
    refine XS.iconst X1.here hx rfl (hb hby se_d18) ?_
    show Steps p.tables e below (T1.setTop (mkF m 19 #[.val (.ref r0), .val (.int p1), .val (.int (0 : Int32)), .val (.int (1 : Int32)), .unset] [(.int (1 : Int32)), (.int (1 : Int32))])) t
    refine XS.iadd X1.here hx rfl (hb hby se_d19) rfl ?_
    refine XS.iconst X1.here hx rfl (hb hby se_d20) ?_
    show Steps p.tables e below (T1.setTop (mkF m 21 #[.val (.ref r0), .val (.int p1), .val (.int (0 : Int32)), .val (.int (1 : Int32)), .unset] [(.int (1 : Int32)), (.int (2 : Int32))])) t
    refine XS.iushr X1.here hx rfl (hb hby se_d21) rfl ?_
    show Steps p.tables e below (T1.setTop (mkF m 22 #[.val (.ref r0), .val (.int p1), .val (.int (0 : Int32)), .val (.int (1 : Int32)), .unset] [(.int (1 : Int32))])) t
    refine XS.istore X1.here hx rfl (hb hby se_d22) rfl (l' := #[.val (.ref r0), .val (.int p1), .val (.int (0 : Int32)), .val (.int (1 : Int32)), .val (.int (1 : Int32))]) rfl ?_
    refine XS.aloadN X1.here hx rfl (hb hby se_d24) rfl rfl ?_
    show Steps p.tables e below (T1.setTop (mkF m 25 #[.val (.ref r0), .val (.int p1), .val (.int (0 : Int32)), .val (.int (1 : Int32)), .val (.int (1 : Int32))] [(.ref r0)])) t
    refine st2 _ ?_
    refine XS.iload X2.here hx rfl (hb hby se_d28) rfl ?_
    show Steps p.tables e below (T2.setTop (mkF m 30 #[.val (.ref r0), .val (.int p1), .val (.int (0 : Int32)), .val (.int (1 : Int32)), .val (.int (1 : Int32))] [(.int (1 : Int32)), (.ref b)])) t
    refine ldIA X2 hx hZ e2 H1 (j := (1 : Int32)) (by decide) (g := (mkF m 30 #[.val (.ref r0), .val (.int p1), .val (.int (0 : Int32)), .val (.int (1 : Int32)), .val (.int (1 : Int32))] [(.int (1 : Int32)), (.ref b)])) rfl rfl (hb hby se_d30) _ ?_
    refine XS.iloadN X2.here hx rfl (hb hby se_d31) rfl ?_
    exact kt
  obtain ⟨jx32, pcx32, Lx32, Sx32, hjx32, hdx32, K6⟩ : ∃ (jx32 : Int32) (pcx32 : Nat) (Lx32 : Array Slot) (Sx32 : List Value), jx32 = (if p1 < (f ((1 : Int32)).toNatClampNeg) then (0 : Int32) else (1 : Int32)) ∧ decode c.code pcx32 = .ok (.ireturn, 1) ∧ ∀ t, Steps p.tables e below (T2.setTop (mkF m pcx32 Lx32 ((.int jx32) :: Sx32))) t → P0 t := by
    by_cases hc32 : p1 < (f ((1 : Int32)).toNatClampNeg)
    · have K4 : ∀ t, Steps p.tables e below (T2.setTop (mkF m 50 #[.val (.ref r0), .val (.int p1), .val (.int (0 : Int32)), .val (.int (0 : Int32)), .val (.int (1 : Int32))] [(.int (0 : Int32))])) t → P0 t := by
        intro t kt
        refine K3 t ?_
        refine XS.icmpYes X2.here hx rfl (pc0 := 32) (pc' := 41) rfl (hb hby se_d32) rfl (tlt hc32).2.2.1 (by decide) (by decide) ?_
        refine XS.iload X2.here hx rfl (hb hby se_d41) rfl ?_
        refine XS.iconst X2.here hx rfl (hb hby se_d43) ?_
        show Steps p.tables e below (T2.setTop (mkF m 44 #[.val (.ref r0), .val (.int p1), .val (.int (0 : Int32)), .val (.int (1 : Int32)), .val (.int (1 : Int32))] [(.int (1 : Int32)), (.int (1 : Int32))])) t
        refine XS.isub X2.here hx rfl (hb hby se_d44) rfl ?_
        show Steps p.tables e below (T2.setTop (mkF m 45 #[.val (.ref r0), .val (.int p1), .val (.int (0 : Int32)), .val (.int (1 : Int32)), .val (.int (1 : Int32))] [(.int (0 : Int32))])) t
        refine XS.istoreN X2.here hx rfl (hb hby se_d45) rfl (l' := #[.val (.ref r0), .val (.int p1), .val (.int (0 : Int32)), .val (.int (0 : Int32)), .val (.int (1 : Int32))]) rfl ?_
        show Steps p.tables e below (T2.setTop (mkF m 46 #[.val (.ref r0), .val (.int p1), .val (.int (0 : Int32)), .val (.int (0 : Int32)), .val (.int (1 : Int32))] [])) t
        refine XS.goto X2.here hx rfl (pc0 := 46) (pc' := 10) rfl (hb hby se_d46) (by decide) (by decide) ?_
        refine XS.iloadN X2.here hx rfl (hb hby se_d10) rfl ?_
        refine XS.iloadN X2.here hx rfl (hb hby se_d11) rfl ?_
        show Steps p.tables e below (T2.setTop (mkF m 12 #[.val (.ref r0), .val (.int p1), .val (.int (0 : Int32)), .val (.int (0 : Int32)), .val (.int (1 : Int32))] [(.int (0 : Int32)), (.int (0 : Int32))])) t
        refine XS.icmpYes X2.here hx rfl (pc0 := 12) (pc' := 49) rfl (hb hby se_d12) rfl (flt (by decide)).2.1 (by decide) (by decide) ?_
        refine XS.iloadN X2.here hx rfl (hb hby se_d49) rfl ?_
        exact kt
      exact ⟨_, _, _, _, (if_pos hc32).symm, (hb hby se_d50), K4⟩
    · have K5 : ∀ t, Steps p.tables e below (T2.setTop (mkF m 50 #[.val (.ref r0), .val (.int p1), .val (.int (1 : Int32)), .val (.int (1 : Int32)), .val (.int (1 : Int32))] [(.int (1 : Int32))])) t → P0 t := by
        intro t kt
        refine K3 t ?_
        refine XS.icmpNo X2.here hx rfl (hb hby se_d32) rfl (flt hc32).2.2.1 ?_
        refine XS.iload X2.here hx rfl (hb hby se_d35) rfl ?_
        show Steps p.tables e below (T2.setTop (mkF m 37 #[.val (.ref r0), .val (.int p1), .val (.int (0 : Int32)), .val (.int (1 : Int32)), .val (.int (1 : Int32))] [(.int (1 : Int32))])) t
        refine XS.istoreN X2.here hx rfl (hb hby se_d37) rfl (l' := #[.val (.ref r0), .val (.int p1), .val (.int (1 : Int32)), .val (.int (1 : Int32)), .val (.int (1 : Int32))]) rfl ?_
        show Steps p.tables e below (T2.setTop (mkF m 38 #[.val (.ref r0), .val (.int p1), .val (.int (1 : Int32)), .val (.int (1 : Int32)), .val (.int (1 : Int32))] [])) t
        refine XS.goto X2.here hx rfl (pc0 := 38) (pc' := 46) rfl (hb hby se_d38) (by decide) (by decide) ?_
        show Steps p.tables e below (T2.setTop (mkF m 46 #[.val (.ref r0), .val (.int p1), .val (.int (1 : Int32)), .val (.int (1 : Int32)), .val (.int (1 : Int32))] [])) t
        refine XS.goto X2.here hx rfl (pc0 := 46) (pc' := 10) rfl (hb hby se_d46) (by decide) (by decide) ?_
        refine XS.iloadN X2.here hx rfl (hb hby se_d10) rfl ?_
        refine XS.iloadN X2.here hx rfl (hb hby se_d11) rfl ?_
        show Steps p.tables e below (T2.setTop (mkF m 12 #[.val (.ref r0), .val (.int p1), .val (.int (1 : Int32)), .val (.int (1 : Int32)), .val (.int (1 : Int32))] [(.int (1 : Int32)), (.int (1 : Int32))])) t
        refine XS.icmpYes X2.here hx rfl (pc0 := 12) (pc' := 49) rfl (hb hby se_d12) rfl (flt (by decide)).2.1 (by decide) (by decide) ?_
        refine XS.iloadN X2.here hx rfl (hb hby se_d49) rfl ?_
        exact kt
      exact ⟨_, _, _, _, (if_neg hc32).symm, (hb hby se_d50), K5⟩
  obtain ⟨fs, hr, hrun, hended, hW, hsame⟩ := X2.leave (v := some (.int jx32)) (fun h => by rw [Bd.returns] at h; cases h)
  refine ⟨_, _, ?_, hrun, hended, _, _, rfl, ?_, ⟨_, rfl⟩, hW, hsame.mono (by decide) (by decide)⟩
  · skip
    have q := K6 _ (retI X2 hx Bd.returns hdx32 hr)
    rw [hP0] at q; exact q
  · show QP (.int (fSeg2 p1 f)) h0 n0 _ T2.heap _
    rw [e2]
    subst hjx32
    exact ⟨rfl, N0, rfl⟩
theorem se3_pn : plainName "com/example/termwright/termwright/DocumentNumbers" = true := by first | (simp [plainName, overriddenIn]; done) | decide +kernel
theorem se3_ef (m : MethodId) (x0 : Addr) (x1 : Int32) : entryFrame m #[(.ref x0), (.int x1)] 5 = mkF m 0 #[.val (.ref x0), .val (.int x1), .unset, .unset, .unset] [] := by first | (simp [entryFrame, mkF, argsToLocals, Value.category]; done) | rfl
def fSeg3 (p1 : Int32) (f : Nat → Int32) : Int32 :=
  let jx32_1 : Int32 := (if p1 < (f ((1 : Int32)).toNatClampNeg) then (0 : Int32) else (if p1 < (f ((2 : Int32)).toNatClampNeg) then (1 : Int32) else (2 : Int32)))
  jx32_1
set_option maxRecDepth 65536 in
set_option maxHeartbeats 40000000 in
theorem rm_se3 (l : Launch) (Z : State) (a0 : Array Value) (hw : ∀ d ∈ tables_1, d.before a0 Z = true) (ws : List Jvm.Cond) (r0 : Addr) (p1 : Int32) (b : Addr) (f : Nat → Int32) (h0 : Heap) (n0 : Nat) (Z0 : n0 ≤ h0.size) (H0 : Fld Z h0 r0 "com/example/termwright/termwright/DocumentNumbers" "bases" "[I" (.ref b)) (H1 : IA Z h0 b .int 3 f) :
    MetFree l (⟨"com/example/termwright/termwright/DocumentNumbers", "segmentOf", "(I)I"⟩ : MethodName) (head1 (Jvm.Cond.code (⟨"com/example/termwright/termwright/DocumentNumbers", "segmentOf", "(I)I"⟩ : MethodName) prog_33_method_6_code 5 (some .int) :: ws) ({ frames := 0, cells := 0, slots := 0, locals := 0 } : Room)) (fun a U => a = #[(.ref r0), (.int p1)] ∧ Z.Warmed39 U.vm ∧ U.heap = h0) (fun _ _ _ _ _ => True) (fun _ U o U' => ∃ v L, o = .returned v ∧ QP (.int (fSeg3 p1 f)) h0 n0 v U'.heap L ∧ FrameEnd U o U' L ({ frames := 0, cells := 0, slots := 0, locals := 0 } : Room).cells ({ frames := 0, cells := 0, slots := 0, locals := 0 } : Room).slots) := by
  refine MetFree.of_bodySF (plainFor_of_name se3_pn) hisR ?_
  intro p e s m args below meth c s₁ Bd hml0 hP hK
  obtain ⟨rfl, hZ, hh⟩ := hP
  have hx := Bd.exec
  have hby := Bd.bytes
  have hml : c.maxLocals = 5 := hml0
  have hown : s.vm.findClass "com/example/termwright/termwright/DocumentNumbers" = some m.cls := findClass_of_methodNamed Bd.named
  have hnm := (name_of_methodNamed Bd.named Bd.method).1
  have X0 : Stand p l e ({ frames := 0, cells := 0, slots := 0, locals := 0 } : Room) s m #[(.ref r0), (.int p1)] below meth c s₁ [] 0 0 := Stand.of_body Bd
  have e0 : s₁.heap = h0 := by rw [← hh, Bd.state]; rfl
  have N0 := Fr.nil n0
  obtain ⟨P0, hP0⟩ : ∃ P0 : State → Prop, P0 = fun t => Steps p.tables e below (s₁.setTop (entryFrame m #[(.ref r0), (.int p1)] 5)) t := ⟨_, rfl⟩
  have K0 : ∀ t, Steps p.tables e below (s₁.setTop (mkF m 0 #[.val (.ref r0), .val (.int p1), .unset, .unset, .unset] [])) t → P0 t := by
    intro t k; rw [hP0]; exact castTop (se3_ef m r0 p1) k
  obtain ⟨T1, X1, e1, st1⟩ := getF X0 hx hZ hown (host := "") (Or.inl (hw _ (gw 46 rfl))) Via.refl e0 H0 (g := (mkF m 3 #[.val (.ref r0), .val (.int p1), .val (.int (0 : Int32)), .unset, .unset] [(.ref r0)])) rfl rfl (hb hby se_d3)
  obtain ⟨T2, X2, e2, st2⟩ := getF X1 hx hZ hown (host := "") (Or.inl (hw _ (gw 46 rfl))) Via.refl e1 H0 (g := (mkF m 25 #[.val (.ref r0), .val (.int p1), .val (.int (0 : Int32)), .val (.int (2 : Int32)), .val (.int (1 : Int32))] [(.ref r0)])) rfl rfl (hb hby se_d25)
  have K3 : ∀ t, Steps p.tables e below (T2.setTop (mkF m 32 #[.val (.ref r0), .val (.int p1), .val (.int (0 : Int32)), .val (.int (2 : Int32)), .val (.int (1 : Int32))] [(.int p1), (.int (f ((1 : Int32)).toNatClampNeg))])) t → P0 t := by
    intro t kt
    refine K0 t ?_
    refine XS.iconst X0.here hx rfl (hb hby se_d0) ?_
    show Steps p.tables e below (s₁.setTop (mkF m 1 #[.val (.ref r0), .val (.int p1), .unset, .unset, .unset] [(.int (0 : Int32))])) t
    refine XS.istoreN X0.here hx rfl (hb hby se_d1) rfl (l' := #[.val (.ref r0), .val (.int p1), .val (.int (0 : Int32)), .unset, .unset]) rfl ?_
    refine XS.aloadN X0.here hx rfl (hb hby se_d2) rfl rfl ?_
    show Steps p.tables e below (s₁.setTop (mkF m 3 #[.val (.ref r0), .val (.int p1), .val (.int (0 : Int32)), .unset, .unset] [(.ref r0)])) t
    refine st1 _ ?_
    show Steps p.tables e below (T1.setTop (mkF m 6 #[.val (.ref r0), .val (.int p1), .val (.int (0 : Int32)), .unset, .unset] [(.ref b)])) t
    refine lnIA X1 hx hZ e1 H1 (z := (3 : Int32)) (by decide) (g := (mkF m 6 #[.val (.ref r0), .val (.int p1), .val (.int (0 : Int32)), .unset, .unset] [(.ref b)])) rfl rfl (hb hby se_d6) _ ?_
    refine XS.iconst X1.here hx rfl (hb hby se_d7) ?_
    show Steps p.tables e below (T1.setTop (mkF m 8 #[.val (.ref r0), .val (.int p1), .val (.int (0 : Int32)), .unset, .unset] [(.int (1 : Int32)), (.int (3 : Int32))])) t
    refine XS.isub X1.here hx rfl (hb hby se_d8) rfl ?_
    show Steps p.tables e below (T1.setTop (mkF m 9 #[.val (.ref r0), .val (.int p1), .val (.int (0 : Int32)), .unset, .unset] [(.int (2 : Int32))])) t
    refine XS.istoreN X1.here hx rfl (hb hby se_d9) rfl (l' := #[.val (.ref r0), .val (.int p1), .val (.int (0 : Int32)), .val (.int (2 : Int32)), .unset]) rfl ?_
    refine XS.iloadN X1.here hx rfl (hb hby se_d10) rfl ?_
    refine XS.iloadN X1.here hx rfl (hb hby se_d11) rfl ?_
    show Steps p.tables e below (T1.setTop (mkF m 12 #[.val (.ref r0), .val (.int p1), .val (.int (0 : Int32)), .val (.int (2 : Int32)), .unset] [(.int (2 : Int32)), (.int (0 : Int32))])) t
    refine XS.icmpNo X1.here hx rfl (hb hby se_d12) rfl (tlt (by decide)).2.1 ?_
    refine XS.iloadN X1.here hx rfl (hb hby se_d15) rfl ?_
    refine XS.iloadN X1.here hx rfl (hb hby se_d16) rfl ?_
    show Steps p.tables e below (T1.setTop (mkF m 17 #[.val (.ref r0), .val (.int p1), .val (.int (0 : Int32)), .val (.int (2 : Int32)), .unset] [(.int (2 : Int32)), (.int (0 : Int32))])) t
    refine XS.iadd X1.here hx rfl (hb hby se_d17) rfl ?_
    refine XS.iconst X1.here hx rfl (hb hby se_d18) ?_
    show Steps p.tables e below (T1.setTop (mkF m 19 #[.val (.ref r0), .val (.int p1), .val (.int (0 : Int32)), .val (.int (2 : Int32)), .unset] [(.int (1 : Int32)), (.int (2 : Int32))])) t
    refine XS.iadd X1.here hx rfl (hb hby se_d19) rfl ?_
    refine XS.iconst X1.here hx rfl (hb hby se_d20) ?_
    show Steps p.tables e below (T1.setTop (mkF m 21 #[.val (.ref r0), .val (.int p1), .val (.int (0 : Int32)), .val (.int (2 : Int32)), .unset] [(.int (1 : Int32)), (.int (3 : Int32))])) t
    refine XS.iushr X1.here hx rfl (hb hby se_d21) rfl ?_
    show Steps p.tables e below (T1.setTop (mkF m 22 #[.val (.ref r0), .val (.int p1), .val (.int (0 : Int32)), .val (.int (2 : Int32)), .unset] [(.int (1 : Int32))])) t
    refine XS.istore X1.here hx rfl (hb hby se_d22) rfl (l' := #[.val (.ref r0), .val (.int p1), .val (.int (0 : Int32)), .val (.int (2 : Int32)), .val (.int (1 : Int32))]) rfl ?_
    refine XS.aloadN X1.here hx rfl (hb hby se_d24) rfl rfl ?_
    show Steps p.tables e below (T1.setTop (mkF m 25 #[.val (.ref r0), .val (.int p1), .val (.int (0 : Int32)), .val (.int (2 : Int32)), .val (.int (1 : Int32))] [(.ref r0)])) t
    refine st2 _ ?_
    refine XS.iload X2.here hx rfl (hb hby se_d28) rfl ?_
    show Steps p.tables e below (T2.setTop (mkF m 30 #[.val (.ref r0), .val (.int p1), .val (.int (0 : Int32)), .val (.int (2 : Int32)), .val (.int (1 : Int32))] [(.int (1 : Int32)), (.ref b)])) t
    refine ldIA X2 hx hZ e2 H1 (j := (1 : Int32)) (by decide) (g := (mkF m 30 #[.val (.ref r0), .val (.int p1), .val (.int (0 : Int32)), .val (.int (2 : Int32)), .val (.int (1 : Int32))] [(.int (1 : Int32)), (.ref b)])) rfl rfl (hb hby se_d30) _ ?_
    refine XS.iloadN X2.here hx rfl (hb hby se_d31) rfl ?_
    exact kt
  obtain ⟨jx32_1, pcx32, Lx32, Sx32, T10, hjx32_1, X11, e12, hdx32, K13⟩ : ∃ (jx32_1 : Int32) (pcx32 : Nat) (Lx32 : Array Slot) (Sx32 : List Value) (T10 : State), jx32_1 = (if p1 < (f ((1 : Int32)).toNatClampNeg) then (0 : Int32) else (if p1 < (f ((2 : Int32)).toNatClampNeg) then (1 : Int32) else (2 : Int32))) ∧ Stand p l e ({ frames := 0, cells := 0, slots := 0, locals := 0 } : Room) s m #[(.ref r0), (.int p1)] below meth c T10 [] 0 0 ∧ T10.heap = h0 ∧ decode c.code pcx32 = .ok (.ireturn, 1) ∧ ∀ t, Steps p.tables e below (T10.setTop (mkF m pcx32 Lx32 ((.int jx32_1) :: Sx32))) t → P0 t := by
    by_cases hc32 : p1 < (f ((1 : Int32)).toNatClampNeg)
    · have K4 : ∀ t, Steps p.tables e below (T2.setTop (mkF m 50 #[.val (.ref r0), .val (.int p1), .val (.int (0 : Int32)), .val (.int (0 : Int32)), .val (.int (1 : Int32))] [(.int (0 : Int32))])) t → P0 t := by
        intro t kt
        refine K3 t ?_
        refine XS.icmpYes X2.here hx rfl (pc0 := 32) (pc' := 41) rfl (hb hby se_d32) rfl (tlt hc32).2.2.1 (by decide) (by decide) ?_
        refine XS.iload X2.here hx rfl (hb hby se_d41) rfl ?_
        refine XS.iconst X2.here hx rfl (hb hby se_d43) ?_
        show Steps p.tables e below (T2.setTop (mkF m 44 #[.val (.ref r0), .val (.int p1), .val (.int (0 : Int32)), .val (.int (2 : Int32)), .val (.int (1 : Int32))] [(.int (1 : Int32)), (.int (1 : Int32))])) t
        refine XS.isub X2.here hx rfl (hb hby se_d44) rfl ?_
        show Steps p.tables e below (T2.setTop (mkF m 45 #[.val (.ref r0), .val (.int p1), .val (.int (0 : Int32)), .val (.int (2 : Int32)), .val (.int (1 : Int32))] [(.int (0 : Int32))])) t
        refine XS.istoreN X2.here hx rfl (hb hby se_d45) rfl (l' := #[.val (.ref r0), .val (.int p1), .val (.int (0 : Int32)), .val (.int (0 : Int32)), .val (.int (1 : Int32))]) rfl ?_
        show Steps p.tables e below (T2.setTop (mkF m 46 #[.val (.ref r0), .val (.int p1), .val (.int (0 : Int32)), .val (.int (0 : Int32)), .val (.int (1 : Int32))] [])) t
        refine XS.goto X2.here hx rfl (pc0 := 46) (pc' := 10) rfl (hb hby se_d46) (by decide) (by decide) ?_
        refine XS.iloadN X2.here hx rfl (hb hby se_d10) rfl ?_
        refine XS.iloadN X2.here hx rfl (hb hby se_d11) rfl ?_
        show Steps p.tables e below (T2.setTop (mkF m 12 #[.val (.ref r0), .val (.int p1), .val (.int (0 : Int32)), .val (.int (0 : Int32)), .val (.int (1 : Int32))] [(.int (0 : Int32)), (.int (0 : Int32))])) t
        refine XS.icmpYes X2.here hx rfl (pc0 := 12) (pc' := 49) rfl (hb hby se_d12) rfl (flt (by decide)).2.1 (by decide) (by decide) ?_
        refine XS.iloadN X2.here hx rfl (hb hby se_d49) rfl ?_
        exact kt
      exact ⟨_, _, _, _, _, (if_pos hc32).symm, X2, e2, (hb hby se_d50), K4⟩
    · obtain ⟨T5, X5, e5, st5⟩ := getF X2 hx hZ hown (host := "") (Or.inl (hw _ (gw 46 rfl))) Via.refl e2 H0 (g := (mkF m 25 #[.val (.ref r0), .val (.int p1), .val (.int (1 : Int32)), .val (.int (2 : Int32)), .val (.int (2 : Int32))] [(.ref r0)])) rfl rfl (hb hby se_d25)
      have K6 : ∀ t, Steps p.tables e below (T5.setTop (mkF m 32 #[.val (.ref r0), .val (.int p1), .val (.int (1 : Int32)), .val (.int (2 : Int32)), .val (.int (2 : Int32))] [(.int p1), (.int (f ((2 : Int32)).toNatClampNeg))])) t → P0 t := by
        intro t kt
        refine K3 t ?_
        refine XS.icmpNo X2.here hx rfl (hb hby se_d32) rfl (flt hc32).2.2.1 ?_
        refine XS.iload X2.here hx rfl (hb hby se_d35) rfl ?_
        show Steps p.tables e below (T2.setTop (mkF m 37 #[.val (.ref r0), .val (.int p1), .val (.int (0 : Int32)), .val (.int (2 : Int32)), .val (.int (1 : Int32))] [(.int (1 : Int32))])) t
        refine XS.istoreN X2.here hx rfl (hb hby se_d37) rfl (l' := #[.val (.ref r0), .val (.int p1), .val (.int (1 : Int32)), .val (.int (2 : Int32)), .val (.int (1 : Int32))]) rfl ?_
        show Steps p.tables e below (T2.setTop (mkF m 38 #[.val (.ref r0), .val (.int p1), .val (.int (1 : Int32)), .val (.int (2 : Int32)), .val (.int (1 : Int32))] [])) t
        refine XS.goto X2.here hx rfl (pc0 := 38) (pc' := 46) rfl (hb hby se_d38) (by decide) (by decide) ?_
        show Steps p.tables e below (T2.setTop (mkF m 46 #[.val (.ref r0), .val (.int p1), .val (.int (1 : Int32)), .val (.int (2 : Int32)), .val (.int (1 : Int32))] [])) t
        refine XS.goto X2.here hx rfl (pc0 := 46) (pc' := 10) rfl (hb hby se_d46) (by decide) (by decide) ?_
        refine XS.iloadN X2.here hx rfl (hb hby se_d10) rfl ?_
        refine XS.iloadN X2.here hx rfl (hb hby se_d11) rfl ?_
        show Steps p.tables e below (T2.setTop (mkF m 12 #[.val (.ref r0), .val (.int p1), .val (.int (1 : Int32)), .val (.int (2 : Int32)), .val (.int (1 : Int32))] [(.int (2 : Int32)), (.int (1 : Int32))])) t
        refine XS.icmpNo X2.here hx rfl (hb hby se_d12) rfl (tlt (by decide)).2.1 ?_
        refine XS.iloadN X2.here hx rfl (hb hby se_d15) rfl ?_
        refine XS.iloadN X2.here hx rfl (hb hby se_d16) rfl ?_
        show Steps p.tables e below (T2.setTop (mkF m 17 #[.val (.ref r0), .val (.int p1), .val (.int (1 : Int32)), .val (.int (2 : Int32)), .val (.int (1 : Int32))] [(.int (2 : Int32)), (.int (1 : Int32))])) t
        refine XS.iadd X2.here hx rfl (hb hby se_d17) rfl ?_
        refine XS.iconst X2.here hx rfl (hb hby se_d18) ?_
        show Steps p.tables e below (T2.setTop (mkF m 19 #[.val (.ref r0), .val (.int p1), .val (.int (1 : Int32)), .val (.int (2 : Int32)), .val (.int (1 : Int32))] [(.int (1 : Int32)), (.int (3 : Int32))])) t
        refine XS.iadd X2.here hx rfl (hb hby se_d19) rfl ?_
        refine XS.iconst X2.here hx rfl (hb hby se_d20) ?_
        show Steps p.tables e below (T2.setTop (mkF m 21 #[.val (.ref r0), .val (.int p1), .val (.int (1 : Int32)), .val (.int (2 : Int32)), .val (.int (1 : Int32))] [(.int (1 : Int32)), (.int (4 : Int32))])) t
        refine XS.iushr X2.here hx rfl (hb hby se_d21) rfl ?_
        show Steps p.tables e below (T2.setTop (mkF m 22 #[.val (.ref r0), .val (.int p1), .val (.int (1 : Int32)), .val (.int (2 : Int32)), .val (.int (1 : Int32))] [(.int (2 : Int32))])) t
        refine XS.istore X2.here hx rfl (hb hby se_d22) rfl (l' := #[.val (.ref r0), .val (.int p1), .val (.int (1 : Int32)), .val (.int (2 : Int32)), .val (.int (2 : Int32))]) rfl ?_
        refine XS.aloadN X2.here hx rfl (hb hby se_d24) rfl rfl ?_
        show Steps p.tables e below (T2.setTop (mkF m 25 #[.val (.ref r0), .val (.int p1), .val (.int (1 : Int32)), .val (.int (2 : Int32)), .val (.int (2 : Int32))] [(.ref r0)])) t
        refine st5 _ ?_
        refine XS.iload X5.here hx rfl (hb hby se_d28) rfl ?_
        show Steps p.tables e below (T5.setTop (mkF m 30 #[.val (.ref r0), .val (.int p1), .val (.int (1 : Int32)), .val (.int (2 : Int32)), .val (.int (2 : Int32))] [(.int (2 : Int32)), (.ref b)])) t
        refine ldIA X5 hx hZ e5 H1 (j := (2 : Int32)) (by decide) (g := (mkF m 30 #[.val (.ref r0), .val (.int p1), .val (.int (1 : Int32)), .val (.int (2 : Int32)), .val (.int (2 : Int32))] [(.int (2 : Int32)), (.ref b)])) rfl rfl (hb hby se_d30) _ ?_
        refine XS.iloadN X5.here hx rfl (hb hby se_d31) rfl ?_
        exact kt
      obtain ⟨jx32, pcx32, Lx32, Sx32, hjx32, hdx32, K9⟩ : ∃ (jx32 : Int32) (pcx32 : Nat) (Lx32 : Array Slot) (Sx32 : List Value), jx32 = (if p1 < (f ((2 : Int32)).toNatClampNeg) then (1 : Int32) else (2 : Int32)) ∧ decode c.code pcx32 = .ok (.ireturn, 1) ∧ ∀ t, Steps p.tables e below (T5.setTop (mkF m pcx32 Lx32 ((.int jx32) :: Sx32))) t → P0 t := by
        by_cases hc32_1 : p1 < (f ((2 : Int32)).toNatClampNeg)
        · have K7 : ∀ t, Steps p.tables e below (T5.setTop (mkF m 50 #[.val (.ref r0), .val (.int p1), .val (.int (1 : Int32)), .val (.int (1 : Int32)), .val (.int (2 : Int32))] [(.int (1 : Int32))])) t → P0 t := by
            intro t kt
            refine K6 t ?_
            refine XS.icmpYes X5.here hx rfl (pc0 := 32) (pc' := 41) rfl (hb hby se_d32) rfl (tlt hc32_1).2.2.1 (by decide) (by decide) ?_
            refine XS.iload X5.here hx rfl (hb hby se_d41) rfl ?_
            refine XS.iconst X5.here hx rfl (hb hby se_d43) ?_
            show Steps p.tables e below (T5.setTop (mkF m 44 #[.val (.ref r0), .val (.int p1), .val (.int (1 : Int32)), .val (.int (2 : Int32)), .val (.int (2 : Int32))] [(.int (1 : Int32)), (.int (2 : Int32))])) t
            refine XS.isub X5.here hx rfl (hb hby se_d44) rfl ?_
            show Steps p.tables e below (T5.setTop (mkF m 45 #[.val (.ref r0), .val (.int p1), .val (.int (1 : Int32)), .val (.int (2 : Int32)), .val (.int (2 : Int32))] [(.int (1 : Int32))])) t
            refine XS.istoreN X5.here hx rfl (hb hby se_d45) rfl (l' := #[.val (.ref r0), .val (.int p1), .val (.int (1 : Int32)), .val (.int (1 : Int32)), .val (.int (2 : Int32))]) rfl ?_
            show Steps p.tables e below (T5.setTop (mkF m 46 #[.val (.ref r0), .val (.int p1), .val (.int (1 : Int32)), .val (.int (1 : Int32)), .val (.int (2 : Int32))] [])) t
            refine XS.goto X5.here hx rfl (pc0 := 46) (pc' := 10) rfl (hb hby se_d46) (by decide) (by decide) ?_
            refine XS.iloadN X5.here hx rfl (hb hby se_d10) rfl ?_
            refine XS.iloadN X5.here hx rfl (hb hby se_d11) rfl ?_
            show Steps p.tables e below (T5.setTop (mkF m 12 #[.val (.ref r0), .val (.int p1), .val (.int (1 : Int32)), .val (.int (1 : Int32)), .val (.int (2 : Int32))] [(.int (1 : Int32)), (.int (1 : Int32))])) t
            refine XS.icmpYes X5.here hx rfl (pc0 := 12) (pc' := 49) rfl (hb hby se_d12) rfl (flt (by decide)).2.1 (by decide) (by decide) ?_
            refine XS.iloadN X5.here hx rfl (hb hby se_d49) rfl ?_
            exact kt
          exact ⟨_, _, _, _, (if_pos hc32_1).symm, (hb hby se_d50), K7⟩
        · have K8 : ∀ t, Steps p.tables e below (T5.setTop (mkF m 50 #[.val (.ref r0), .val (.int p1), .val (.int (2 : Int32)), .val (.int (2 : Int32)), .val (.int (2 : Int32))] [(.int (2 : Int32))])) t → P0 t := by
            intro t kt
            refine K6 t ?_
            refine XS.icmpNo X5.here hx rfl (hb hby se_d32) rfl (flt hc32_1).2.2.1 ?_
            refine XS.iload X5.here hx rfl (hb hby se_d35) rfl ?_
            show Steps p.tables e below (T5.setTop (mkF m 37 #[.val (.ref r0), .val (.int p1), .val (.int (1 : Int32)), .val (.int (2 : Int32)), .val (.int (2 : Int32))] [(.int (2 : Int32))])) t
            refine XS.istoreN X5.here hx rfl (hb hby se_d37) rfl (l' := #[.val (.ref r0), .val (.int p1), .val (.int (2 : Int32)), .val (.int (2 : Int32)), .val (.int (2 : Int32))]) rfl ?_
            show Steps p.tables e below (T5.setTop (mkF m 38 #[.val (.ref r0), .val (.int p1), .val (.int (2 : Int32)), .val (.int (2 : Int32)), .val (.int (2 : Int32))] [])) t
            refine XS.goto X5.here hx rfl (pc0 := 38) (pc' := 46) rfl (hb hby se_d38) (by decide) (by decide) ?_
            show Steps p.tables e below (T5.setTop (mkF m 46 #[.val (.ref r0), .val (.int p1), .val (.int (2 : Int32)), .val (.int (2 : Int32)), .val (.int (2 : Int32))] [])) t
            refine XS.goto X5.here hx rfl (pc0 := 46) (pc' := 10) rfl (hb hby se_d46) (by decide) (by decide) ?_
            refine XS.iloadN X5.here hx rfl (hb hby se_d10) rfl ?_
            refine XS.iloadN X5.here hx rfl (hb hby se_d11) rfl ?_
            show Steps p.tables e below (T5.setTop (mkF m 12 #[.val (.ref r0), .val (.int p1), .val (.int (2 : Int32)), .val (.int (2 : Int32)), .val (.int (2 : Int32))] [(.int (2 : Int32)), (.int (2 : Int32))])) t
            refine XS.icmpYes X5.here hx rfl (pc0 := 12) (pc' := 49) rfl (hb hby se_d12) rfl (flt (by decide)).2.1 (by decide) (by decide) ?_
            refine XS.iloadN X5.here hx rfl (hb hby se_d49) rfl ?_
            exact kt
          exact ⟨_, _, _, _, (if_neg hc32_1).symm, (hb hby se_d50), K8⟩
      subst hjx32
      exact ⟨_, _, _, _, _, (if_neg hc32).symm, X5, e5, hdx32, K9⟩
  obtain ⟨fs, hr, hrun, hended, hW, hsame⟩ := X11.leave (v := some (.int jx32_1)) (fun h => by rw [Bd.returns] at h; cases h)
  refine ⟨_, _, ?_, hrun, hended, _, _, rfl, ?_, ⟨_, rfl⟩, hW, hsame.mono (by decide) (by decide)⟩
  · skip
    have q := K13 _ (retI X11 hx Bd.returns hdx32 hr)
    rw [hP0] at q; exact q
  · show QP (.int (fSeg3 p1 f)) h0 n0 _ T10.heap _
    rw [e12]
    subst hjx32_1
    exact ⟨rfl, N0, rfl⟩
theorem se4_pn : plainName "com/example/termwright/termwright/DocumentNumbers" = true := by first | (simp [plainName, overriddenIn]; done) | decide +kernel
theorem se4_ef (m : MethodId) (x0 : Addr) (x1 : Int32) : entryFrame m #[(.ref x0), (.int x1)] 5 = mkF m 0 #[.val (.ref x0), .val (.int x1), .unset, .unset, .unset] [] := by first | (simp [entryFrame, mkF, argsToLocals, Value.category]; done) | rfl
def fSeg4 (p1 : Int32) (f : Nat → Int32) : Int32 :=
  let jx32_2 : Int32 := (if p1 < (f ((2 : Int32)).toNatClampNeg) then (if p1 < (f ((1 : Int32)).toNatClampNeg) then (0 : Int32) else (1 : Int32)) else (if p1 < (f ((3 : Int32)).toNatClampNeg) then (2 : Int32) else (3 : Int32)))
  jx32_2
set_option maxRecDepth 65536 in
set_option maxHeartbeats 40000000 in
theorem rm_se4 (l : Launch) (Z : State) (a0 : Array Value) (hw : ∀ d ∈ tables_1, d.before a0 Z = true) (ws : List Jvm.Cond) (r0 : Addr) (p1 : Int32) (b : Addr) (f : Nat → Int32) (h0 : Heap) (n0 : Nat) (Z0 : n0 ≤ h0.size) (H0 : Fld Z h0 r0 "com/example/termwright/termwright/DocumentNumbers" "bases" "[I" (.ref b)) (H1 : IA Z h0 b .int 4 f) :
    MetFree l (⟨"com/example/termwright/termwright/DocumentNumbers", "segmentOf", "(I)I"⟩ : MethodName) (head1 (Jvm.Cond.code (⟨"com/example/termwright/termwright/DocumentNumbers", "segmentOf", "(I)I"⟩ : MethodName) prog_33_method_6_code 5 (some .int) :: ws) ({ frames := 0, cells := 0, slots := 0, locals := 0 } : Room)) (fun a U => a = #[(.ref r0), (.int p1)] ∧ Z.Warmed39 U.vm ∧ U.heap = h0) (fun _ _ _ _ _ => True) (fun _ U o U' => ∃ v L, o = .returned v ∧ QP (.int (fSeg4 p1 f)) h0 n0 v U'.heap L ∧ FrameEnd U o U' L ({ frames := 0, cells := 0, slots := 0, locals := 0 } : Room).cells ({ frames := 0, cells := 0, slots := 0, locals := 0 } : Room).slots) := by
  refine MetFree.of_bodySF (plainFor_of_name se4_pn) hisR ?_
  intro p e s m args below meth c s₁ Bd hml0 hP hK
  obtain ⟨rfl, hZ, hh⟩ := hP
  have hx := Bd.exec
  have hby := Bd.bytes
  have hml : c.maxLocals = 5 := hml0
  have hown : s.vm.findClass "com/example/termwright/termwright/DocumentNumbers" = some m.cls := findClass_of_methodNamed Bd.named
  have hnm := (name_of_methodNamed Bd.named Bd.method).1
  have X0 : Stand p l e ({ frames := 0, cells := 0, slots := 0, locals := 0 } : Room) s m #[(.ref r0), (.int p1)] below meth c s₁ [] 0 0 := Stand.of_body Bd
  have e0 : s₁.heap = h0 := by rw [← hh, Bd.state]; rfl
  have N0 := Fr.nil n0
  obtain ⟨P0, hP0⟩ : ∃ P0 : State → Prop, P0 = fun t => Steps p.tables e below (s₁.setTop (entryFrame m #[(.ref r0), (.int p1)] 5)) t := ⟨_, rfl⟩
  have K0 : ∀ t, Steps p.tables e below (s₁.setTop (mkF m 0 #[.val (.ref r0), .val (.int p1), .unset, .unset, .unset] [])) t → P0 t := by
    intro t k; rw [hP0]; exact castTop (se4_ef m r0 p1) k
  obtain ⟨T1, X1, e1, st1⟩ := getF X0 hx hZ hown (host := "") (Or.inl (hw _ (gw 46 rfl))) Via.refl e0 H0 (g := (mkF m 3 #[.val (.ref r0), .val (.int p1), .val (.int (0 : Int32)), .unset, .unset] [(.ref r0)])) rfl rfl (hb hby se_d3)
  obtain ⟨T2, X2, e2, st2⟩ := getF X1 hx hZ hown (host := "") (Or.inl (hw _ (gw 46 rfl))) Via.refl e1 H0 (g := (mkF m 25 #[.val (.ref r0), .val (.int p1), .val (.int (0 : Int32)), .val (.int (3 : Int32)), .val (.int (2 : Int32))] [(.ref r0)])) rfl rfl (hb hby se_d25)
  have K3 : ∀ t, Steps p.tables e below (T2.setTop (mkF m 32 #[.val (.ref r0), .val (.int p1), .val (.int (0 : Int32)), .val (.int (3 : Int32)), .val (.int (2 : Int32))] [(.int p1), (.int (f ((2 : Int32)).toNatClampNeg))])) t → P0 t := by
    intro t kt
    refine K0 t ?_
    refine XS.iconst X0.here hx rfl (hb hby se_d0) ?_
    show Steps p.tables e below (s₁.setTop (mkF m 1 #[.val (.ref r0), .val (.int p1), .unset, .unset, .unset] [(.int (0 : Int32))])) t
    refine XS.istoreN X0.here hx rfl (hb hby se_d1) rfl (l' := #[.val (.ref r0), .val (.int p1), .val (.int (0 : Int32)), .unset, .unset]) rfl ?_
    refine XS.aloadN X0.here hx rfl (hb hby se_d2) rfl rfl ?_
    show Steps p.tables e below (s₁.setTop (mkF m 3 #[.val (.ref r0), .val (.int p1), .val (.int (0 : Int32)), .unset, .unset] [(.ref r0)])) t
    refine st1 _ ?_
    show Steps p.tables e below (T1.setTop (mkF m 6 #[.val (.ref r0), .val (.int p1), .val (.int (0 : Int32)), .unset, .unset] [(.ref b)])) t
    refine lnIA X1 hx hZ e1 H1 (z := (4 : Int32)) (by decide) (g := (mkF m 6 #[.val (.ref r0), .val (.int p1), .val (.int (0 : Int32)), .unset, .unset] [(.ref b)])) rfl rfl (hb hby se_d6) _ ?_
    refine XS.iconst X1.here hx rfl (hb hby se_d7) ?_
    show Steps p.tables e below (T1.setTop (mkF m 8 #[.val (.ref r0), .val (.int p1), .val (.int (0 : Int32)), .unset, .unset] [(.int (1 : Int32)), (.int (4 : Int32))])) t
    refine XS.isub X1.here hx rfl (hb hby se_d8) rfl ?_
    show Steps p.tables e below (T1.setTop (mkF m 9 #[.val (.ref r0), .val (.int p1), .val (.int (0 : Int32)), .unset, .unset] [(.int (3 : Int32))])) t
    refine XS.istoreN X1.here hx rfl (hb hby se_d9) rfl (l' := #[.val (.ref r0), .val (.int p1), .val (.int (0 : Int32)), .val (.int (3 : Int32)), .unset]) rfl ?_
    refine XS.iloadN X1.here hx rfl (hb hby se_d10) rfl ?_
    refine XS.iloadN X1.here hx rfl (hb hby se_d11) rfl ?_
    show Steps p.tables e below (T1.setTop (mkF m 12 #[.val (.ref r0), .val (.int p1), .val (.int (0 : Int32)), .val (.int (3 : Int32)), .unset] [(.int (3 : Int32)), (.int (0 : Int32))])) t
    refine XS.icmpNo X1.here hx rfl (hb hby se_d12) rfl (tlt (by decide)).2.1 ?_
    refine XS.iloadN X1.here hx rfl (hb hby se_d15) rfl ?_
    refine XS.iloadN X1.here hx rfl (hb hby se_d16) rfl ?_
    show Steps p.tables e below (T1.setTop (mkF m 17 #[.val (.ref r0), .val (.int p1), .val (.int (0 : Int32)), .val (.int (3 : Int32)), .unset] [(.int (3 : Int32)), (.int (0 : Int32))])) t
    refine XS.iadd X1.here hx rfl (hb hby se_d17) rfl ?_
    refine XS.iconst X1.here hx rfl (hb hby se_d18) ?_
    show Steps p.tables e below (T1.setTop (mkF m 19 #[.val (.ref r0), .val (.int p1), .val (.int (0 : Int32)), .val (.int (3 : Int32)), .unset] [(.int (1 : Int32)), (.int (3 : Int32))])) t
    refine XS.iadd X1.here hx rfl (hb hby se_d19) rfl ?_
    refine XS.iconst X1.here hx rfl (hb hby se_d20) ?_
    show Steps p.tables e below (T1.setTop (mkF m 21 #[.val (.ref r0), .val (.int p1), .val (.int (0 : Int32)), .val (.int (3 : Int32)), .unset] [(.int (1 : Int32)), (.int (4 : Int32))])) t
    refine XS.iushr X1.here hx rfl (hb hby se_d21) rfl ?_
    show Steps p.tables e below (T1.setTop (mkF m 22 #[.val (.ref r0), .val (.int p1), .val (.int (0 : Int32)), .val (.int (3 : Int32)), .unset] [(.int (2 : Int32))])) t
    refine XS.istore X1.here hx rfl (hb hby se_d22) rfl (l' := #[.val (.ref r0), .val (.int p1), .val (.int (0 : Int32)), .val (.int (3 : Int32)), .val (.int (2 : Int32))]) rfl ?_
    refine XS.aloadN X1.here hx rfl (hb hby se_d24) rfl rfl ?_
    show Steps p.tables e below (T1.setTop (mkF m 25 #[.val (.ref r0), .val (.int p1), .val (.int (0 : Int32)), .val (.int (3 : Int32)), .val (.int (2 : Int32))] [(.ref r0)])) t
    refine st2 _ ?_
    refine XS.iload X2.here hx rfl (hb hby se_d28) rfl ?_
    show Steps p.tables e below (T2.setTop (mkF m 30 #[.val (.ref r0), .val (.int p1), .val (.int (0 : Int32)), .val (.int (3 : Int32)), .val (.int (2 : Int32))] [(.int (2 : Int32)), (.ref b)])) t
    refine ldIA X2 hx hZ e2 H1 (j := (2 : Int32)) (by decide) (g := (mkF m 30 #[.val (.ref r0), .val (.int p1), .val (.int (0 : Int32)), .val (.int (3 : Int32)), .val (.int (2 : Int32))] [(.int (2 : Int32)), (.ref b)])) rfl rfl (hb hby se_d30) _ ?_
    refine XS.iloadN X2.here hx rfl (hb hby se_d31) rfl ?_
    exact kt
  obtain ⟨jx32_2, pcx32, Lx32, Sx32, T14, hjx32_2, X15, e16, hdx32, K17⟩ : ∃ (jx32_2 : Int32) (pcx32 : Nat) (Lx32 : Array Slot) (Sx32 : List Value) (T14 : State), jx32_2 = (if p1 < (f ((2 : Int32)).toNatClampNeg) then (if p1 < (f ((1 : Int32)).toNatClampNeg) then (0 : Int32) else (1 : Int32)) else (if p1 < (f ((3 : Int32)).toNatClampNeg) then (2 : Int32) else (3 : Int32))) ∧ Stand p l e ({ frames := 0, cells := 0, slots := 0, locals := 0 } : Room) s m #[(.ref r0), (.int p1)] below meth c T14 [] 0 0 ∧ T14.heap = h0 ∧ decode c.code pcx32 = .ok (.ireturn, 1) ∧ ∀ t, Steps p.tables e below (T14.setTop (mkF m pcx32 Lx32 ((.int jx32_2) :: Sx32))) t → P0 t := by
    by_cases hc32 : p1 < (f ((2 : Int32)).toNatClampNeg)
    · obtain ⟨T4, X4, e4, st4⟩ := getF X2 hx hZ hown (host := "") (Or.inl (hw _ (gw 46 rfl))) Via.refl e2 H0 (g := (mkF m 25 #[.val (.ref r0), .val (.int p1), .val (.int (0 : Int32)), .val (.int (1 : Int32)), .val (.int (1 : Int32))] [(.ref r0)])) rfl rfl (hb hby se_d25)
      have K5 : ∀ t, Steps p.tables e below (T4.setTop (mkF m 32 #[.val (.ref r0), .val (.int p1), .val (.int (0 : Int32)), .val (.int (1 : Int32)), .val (.int (1 : Int32))] [(.int p1), (.int (f ((1 : Int32)).toNatClampNeg))])) t → P0 t := by
        intro t kt
        refine K3 t ?_
        refine XS.icmpYes X2.here hx rfl (pc0 := 32) (pc' := 41) rfl (hb hby se_d32) rfl (tlt hc32).2.2.1 (by decide) (by decide) ?_
        refine XS.iload X2.here hx rfl (hb hby se_d41) rfl ?_
        refine XS.iconst X2.here hx rfl (hb hby se_d43) ?_
        show Steps p.tables e below (T2.setTop (mkF m 44 #[.val (.ref r0), .val (.int p1), .val (.int (0 : Int32)), .val (.int (3 : Int32)), .val (.int (2 : Int32))] [(.int (1 : Int32)), (.int (2 : Int32))])) t
        refine XS.isub X2.here hx rfl (hb hby se_d44) rfl ?_
        show Steps p.tables e below (T2.setTop (mkF m 45 #[.val (.ref r0), .val (.int p1), .val (.int (0 : Int32)), .val (.int (3 : Int32)), .val (.int (2 : Int32))] [(.int (1 : Int32))])) t
        refine XS.istoreN X2.here hx rfl (hb hby se_d45) rfl (l' := #[.val (.ref r0), .val (.int p1), .val (.int (0 : Int32)), .val (.int (1 : Int32)), .val (.int (2 : Int32))]) rfl ?_
        show Steps p.tables e below (T2.setTop (mkF m 46 #[.val (.ref r0), .val (.int p1), .val (.int (0 : Int32)), .val (.int (1 : Int32)), .val (.int (2 : Int32))] [])) t
        refine XS.goto X2.here hx rfl (pc0 := 46) (pc' := 10) rfl (hb hby se_d46) (by decide) (by decide) ?_
        refine XS.iloadN X2.here hx rfl (hb hby se_d10) rfl ?_
        refine XS.iloadN X2.here hx rfl (hb hby se_d11) rfl ?_
        show Steps p.tables e below (T2.setTop (mkF m 12 #[.val (.ref r0), .val (.int p1), .val (.int (0 : Int32)), .val (.int (1 : Int32)), .val (.int (2 : Int32))] [(.int (1 : Int32)), (.int (0 : Int32))])) t
        refine XS.icmpNo X2.here hx rfl (hb hby se_d12) rfl (tlt (by decide)).2.1 ?_
        refine XS.iloadN X2.here hx rfl (hb hby se_d15) rfl ?_
        refine XS.iloadN X2.here hx rfl (hb hby se_d16) rfl ?_
        show Steps p.tables e below (T2.setTop (mkF m 17 #[.val (.ref r0), .val (.int p1), .val (.int (0 : Int32)), .val (.int (1 : Int32)), .val (.int (2 : Int32))] [(.int (1 : Int32)), (.int (0 : Int32))])) t
        refine XS.iadd X2.here hx rfl (hb hby se_d17) rfl ?_
        refine XS.iconst X2.here hx rfl (hb hby se_d18) ?_
        show Steps p.tables e below (T2.setTop (mkF m 19 #[.val (.ref r0), .val (.int p1), .val (.int (0 : Int32)), .val (.int (1 : Int32)), .val (.int (2 : Int32))] [(.int (1 : Int32)), (.int (1 : Int32))])) t
        refine XS.iadd X2.here hx rfl (hb hby se_d19) rfl ?_
        refine XS.iconst X2.here hx rfl (hb hby se_d20) ?_
        show Steps p.tables e below (T2.setTop (mkF m 21 #[.val (.ref r0), .val (.int p1), .val (.int (0 : Int32)), .val (.int (1 : Int32)), .val (.int (2 : Int32))] [(.int (1 : Int32)), (.int (2 : Int32))])) t
        refine XS.iushr X2.here hx rfl (hb hby se_d21) rfl ?_
        show Steps p.tables e below (T2.setTop (mkF m 22 #[.val (.ref r0), .val (.int p1), .val (.int (0 : Int32)), .val (.int (1 : Int32)), .val (.int (2 : Int32))] [(.int (1 : Int32))])) t
        refine XS.istore X2.here hx rfl (hb hby se_d22) rfl (l' := #[.val (.ref r0), .val (.int p1), .val (.int (0 : Int32)), .val (.int (1 : Int32)), .val (.int (1 : Int32))]) rfl ?_
        refine XS.aloadN X2.here hx rfl (hb hby se_d24) rfl rfl ?_
        show Steps p.tables e below (T2.setTop (mkF m 25 #[.val (.ref r0), .val (.int p1), .val (.int (0 : Int32)), .val (.int (1 : Int32)), .val (.int (1 : Int32))] [(.ref r0)])) t
        refine st4 _ ?_
        refine XS.iload X4.here hx rfl (hb hby se_d28) rfl ?_
        show Steps p.tables e below (T4.setTop (mkF m 30 #[.val (.ref r0), .val (.int p1), .val (.int (0 : Int32)), .val (.int (1 : Int32)), .val (.int (1 : Int32))] [(.int (1 : Int32)), (.ref b)])) t
        refine ldIA X4 hx hZ e4 H1 (j := (1 : Int32)) (by decide) (g := (mkF m 30 #[.val (.ref r0), .val (.int p1), .val (.int (0 : Int32)), .val (.int (1 : Int32)), .val (.int (1 : Int32))] [(.int (1 : Int32)), (.ref b)])) rfl rfl (hb hby se_d30) _ ?_
        refine XS.iloadN X4.here hx rfl (hb hby se_d31) rfl ?_
        exact kt
      obtain ⟨jx32, pcx32, Lx32, Sx32, hjx32, hdx32, K8⟩ : ∃ (jx32 : Int32) (pcx32 : Nat) (Lx32 : Array Slot) (Sx32 : List Value), jx32 = (if p1 < (f ((1 : Int32)).toNatClampNeg) then (0 : Int32) else (1 : Int32)) ∧ decode c.code pcx32 = .ok (.ireturn, 1) ∧ ∀ t, Steps p.tables e below (T4.setTop (mkF m pcx32 Lx32 ((.int jx32) :: Sx32))) t → P0 t := by
        by_cases hc32_1 : p1 < (f ((1 : Int32)).toNatClampNeg)
        · have K6 : ∀ t, Steps p.tables e below (T4.setTop (mkF m 50 #[.val (.ref r0), .val (.int p1), .val (.int (0 : Int32)), .val (.int (0 : Int32)), .val (.int (1 : Int32))] [(.int (0 : Int32))])) t → P0 t := by
            intro t kt
            refine K5 t ?_
            refine XS.icmpYes X4.here hx rfl (pc0 := 32) (pc' := 41) rfl (hb hby se_d32) rfl (tlt hc32_1).2.2.1 (by decide) (by decide) ?_
            refine XS.iload X4.here hx rfl (hb hby se_d41) rfl ?_
            refine XS.iconst X4.here hx rfl (hb hby se_d43) ?_
            show Steps p.tables e below (T4.setTop (mkF m 44 #[.val (.ref r0), .val (.int p1), .val (.int (0 : Int32)), .val (.int (1 : Int32)), .val (.int (1 : Int32))] [(.int (1 : Int32)), (.int (1 : Int32))])) t
            refine XS.isub X4.here hx rfl (hb hby se_d44) rfl ?_
            show Steps p.tables e below (T4.setTop (mkF m 45 #[.val (.ref r0), .val (.int p1), .val (.int (0 : Int32)), .val (.int (1 : Int32)), .val (.int (1 : Int32))] [(.int (0 : Int32))])) t
            refine XS.istoreN X4.here hx rfl (hb hby se_d45) rfl (l' := #[.val (.ref r0), .val (.int p1), .val (.int (0 : Int32)), .val (.int (0 : Int32)), .val (.int (1 : Int32))]) rfl ?_
            show Steps p.tables e below (T4.setTop (mkF m 46 #[.val (.ref r0), .val (.int p1), .val (.int (0 : Int32)), .val (.int (0 : Int32)), .val (.int (1 : Int32))] [])) t
            refine XS.goto X4.here hx rfl (pc0 := 46) (pc' := 10) rfl (hb hby se_d46) (by decide) (by decide) ?_
            refine XS.iloadN X4.here hx rfl (hb hby se_d10) rfl ?_
            refine XS.iloadN X4.here hx rfl (hb hby se_d11) rfl ?_
            show Steps p.tables e below (T4.setTop (mkF m 12 #[.val (.ref r0), .val (.int p1), .val (.int (0 : Int32)), .val (.int (0 : Int32)), .val (.int (1 : Int32))] [(.int (0 : Int32)), (.int (0 : Int32))])) t
            refine XS.icmpYes X4.here hx rfl (pc0 := 12) (pc' := 49) rfl (hb hby se_d12) rfl (flt (by decide)).2.1 (by decide) (by decide) ?_
            refine XS.iloadN X4.here hx rfl (hb hby se_d49) rfl ?_
            exact kt
          exact ⟨_, _, _, _, (if_pos hc32_1).symm, (hb hby se_d50), K6⟩
        · have K7 : ∀ t, Steps p.tables e below (T4.setTop (mkF m 50 #[.val (.ref r0), .val (.int p1), .val (.int (1 : Int32)), .val (.int (1 : Int32)), .val (.int (1 : Int32))] [(.int (1 : Int32))])) t → P0 t := by
            intro t kt
            refine K5 t ?_
            refine XS.icmpNo X4.here hx rfl (hb hby se_d32) rfl (flt hc32_1).2.2.1 ?_
            refine XS.iload X4.here hx rfl (hb hby se_d35) rfl ?_
            show Steps p.tables e below (T4.setTop (mkF m 37 #[.val (.ref r0), .val (.int p1), .val (.int (0 : Int32)), .val (.int (1 : Int32)), .val (.int (1 : Int32))] [(.int (1 : Int32))])) t
            refine XS.istoreN X4.here hx rfl (hb hby se_d37) rfl (l' := #[.val (.ref r0), .val (.int p1), .val (.int (1 : Int32)), .val (.int (1 : Int32)), .val (.int (1 : Int32))]) rfl ?_
            show Steps p.tables e below (T4.setTop (mkF m 38 #[.val (.ref r0), .val (.int p1), .val (.int (1 : Int32)), .val (.int (1 : Int32)), .val (.int (1 : Int32))] [])) t
            refine XS.goto X4.here hx rfl (pc0 := 38) (pc' := 46) rfl (hb hby se_d38) (by decide) (by decide) ?_
            show Steps p.tables e below (T4.setTop (mkF m 46 #[.val (.ref r0), .val (.int p1), .val (.int (1 : Int32)), .val (.int (1 : Int32)), .val (.int (1 : Int32))] [])) t
            refine XS.goto X4.here hx rfl (pc0 := 46) (pc' := 10) rfl (hb hby se_d46) (by decide) (by decide) ?_
            refine XS.iloadN X4.here hx rfl (hb hby se_d10) rfl ?_
            refine XS.iloadN X4.here hx rfl (hb hby se_d11) rfl ?_
            show Steps p.tables e below (T4.setTop (mkF m 12 #[.val (.ref r0), .val (.int p1), .val (.int (1 : Int32)), .val (.int (1 : Int32)), .val (.int (1 : Int32))] [(.int (1 : Int32)), (.int (1 : Int32))])) t
            refine XS.icmpYes X4.here hx rfl (pc0 := 12) (pc' := 49) rfl (hb hby se_d12) rfl (flt (by decide)).2.1 (by decide) (by decide) ?_
            refine XS.iloadN X4.here hx rfl (hb hby se_d49) rfl ?_
            exact kt
          exact ⟨_, _, _, _, (if_neg hc32_1).symm, (hb hby se_d50), K7⟩
      subst hjx32
      exact ⟨_, _, _, _, _, (if_pos hc32).symm, X4, e4, hdx32, K8⟩
    · obtain ⟨T9, X9, e9, st9⟩ := getF X2 hx hZ hown (host := "") (Or.inl (hw _ (gw 46 rfl))) Via.refl e2 H0 (g := (mkF m 25 #[.val (.ref r0), .val (.int p1), .val (.int (2 : Int32)), .val (.int (3 : Int32)), .val (.int (3 : Int32))] [(.ref r0)])) rfl rfl (hb hby se_d25)
      have K10 : ∀ t, Steps p.tables e below (T9.setTop (mkF m 32 #[.val (.ref r0), .val (.int p1), .val (.int (2 : Int32)), .val (.int (3 : Int32)), .val (.int (3 : Int32))] [(.int p1), (.int (f ((3 : Int32)).toNatClampNeg))])) t → P0 t := by
        intro t kt
        refine K3 t ?_
        refine XS.icmpNo X2.here hx rfl (hb hby se_d32) rfl (flt hc32).2.2.1 ?_
        refine XS.iload X2.here hx rfl (hb hby se_d35) rfl ?_
        show Steps p.tables e below (T2.setTop (mkF m 37 #[.val (.ref r0), .val (.int p1), .val (.int (0 : Int32)), .val (.int (3 : Int32)), .val (.int (2 : Int32))] [(.int (2 : Int32))])) t
        refine XS.istoreN X2.here hx rfl (hb hby se_d37) rfl (l' := #[.val (.ref r0), .val (.int p1), .val (.int (2 : Int32)), .val (.int (3 : Int32)), .val (.int (2 : Int32))]) rfl ?_
        show Steps p.tables e below (T2.setTop (mkF m 38 #[.val (.ref r0), .val (.int p1), .val (.int (2 : Int32)), .val (.int (3 : Int32)), .val (.int (2 : Int32))] [])) t
        refine XS.goto X2.here hx rfl (pc0 := 38) (pc' := 46) rfl (hb hby se_d38) (by decide) (by decide) ?_
        show Steps p.tables e below (T2.setTop (mkF m 46 #[.val (.ref r0), .val (.int p1), .val (.int (2 : Int32)), .val (.int (3 : Int32)), .val (.int (2 : Int32))] [])) t
        refine XS.goto X2.here hx rfl (pc0 := 46) (pc' := 10) rfl (hb hby se_d46) (by decide) (by decide) ?_
        refine XS.iloadN X2.here hx rfl (hb hby se_d10) rfl ?_
        refine XS.iloadN X2.here hx rfl (hb hby se_d11) rfl ?_
        show Steps p.tables e below (T2.setTop (mkF m 12 #[.val (.ref r0), .val (.int p1), .val (.int (2 : Int32)), .val (.int (3 : Int32)), .val (.int (2 : Int32))] [(.int (3 : Int32)), (.int (2 : Int32))])) t
        refine XS.icmpNo X2.here hx rfl (hb hby se_d12) rfl (tlt (by decide)).2.1 ?_
        refine XS.iloadN X2.here hx rfl (hb hby se_d15) rfl ?_
        refine XS.iloadN X2.here hx rfl (hb hby se_d16) rfl ?_
        show Steps p.tables e below (T2.setTop (mkF m 17 #[.val (.ref r0), .val (.int p1), .val (.int (2 : Int32)), .val (.int (3 : Int32)), .val (.int (2 : Int32))] [(.int (3 : Int32)), (.int (2 : Int32))])) t
        refine XS.iadd X2.here hx rfl (hb hby se_d17) rfl ?_
        refine XS.iconst X2.here hx rfl (hb hby se_d18) ?_
        show Steps p.tables e below (T2.setTop (mkF m 19 #[.val (.ref r0), .val (.int p1), .val (.int (2 : Int32)), .val (.int (3 : Int32)), .val (.int (2 : Int32))] [(.int (1 : Int32)), (.int (5 : Int32))])) t
        refine XS.iadd X2.here hx rfl (hb hby se_d19) rfl ?_
        refine XS.iconst X2.here hx rfl (hb hby se_d20) ?_
        show Steps p.tables e below (T2.setTop (mkF m 21 #[.val (.ref r0), .val (.int p1), .val (.int (2 : Int32)), .val (.int (3 : Int32)), .val (.int (2 : Int32))] [(.int (1 : Int32)), (.int (6 : Int32))])) t
        refine XS.iushr X2.here hx rfl (hb hby se_d21) rfl ?_
        show Steps p.tables e below (T2.setTop (mkF m 22 #[.val (.ref r0), .val (.int p1), .val (.int (2 : Int32)), .val (.int (3 : Int32)), .val (.int (2 : Int32))] [(.int (3 : Int32))])) t
        refine XS.istore X2.here hx rfl (hb hby se_d22) rfl (l' := #[.val (.ref r0), .val (.int p1), .val (.int (2 : Int32)), .val (.int (3 : Int32)), .val (.int (3 : Int32))]) rfl ?_
        refine XS.aloadN X2.here hx rfl (hb hby se_d24) rfl rfl ?_
        show Steps p.tables e below (T2.setTop (mkF m 25 #[.val (.ref r0), .val (.int p1), .val (.int (2 : Int32)), .val (.int (3 : Int32)), .val (.int (3 : Int32))] [(.ref r0)])) t
        refine st9 _ ?_
        refine XS.iload X9.here hx rfl (hb hby se_d28) rfl ?_
        show Steps p.tables e below (T9.setTop (mkF m 30 #[.val (.ref r0), .val (.int p1), .val (.int (2 : Int32)), .val (.int (3 : Int32)), .val (.int (3 : Int32))] [(.int (3 : Int32)), (.ref b)])) t
        refine ldIA X9 hx hZ e9 H1 (j := (3 : Int32)) (by decide) (g := (mkF m 30 #[.val (.ref r0), .val (.int p1), .val (.int (2 : Int32)), .val (.int (3 : Int32)), .val (.int (3 : Int32))] [(.int (3 : Int32)), (.ref b)])) rfl rfl (hb hby se_d30) _ ?_
        refine XS.iloadN X9.here hx rfl (hb hby se_d31) rfl ?_
        exact kt
      obtain ⟨jx32_1, pcx32, Lx32, Sx32, hjx32_1, hdx32, K13⟩ : ∃ (jx32_1 : Int32) (pcx32 : Nat) (Lx32 : Array Slot) (Sx32 : List Value), jx32_1 = (if p1 < (f ((3 : Int32)).toNatClampNeg) then (2 : Int32) else (3 : Int32)) ∧ decode c.code pcx32 = .ok (.ireturn, 1) ∧ ∀ t, Steps p.tables e below (T9.setTop (mkF m pcx32 Lx32 ((.int jx32_1) :: Sx32))) t → P0 t := by
        by_cases hc32_2 : p1 < (f ((3 : Int32)).toNatClampNeg)
        · have K11 : ∀ t, Steps p.tables e below (T9.setTop (mkF m 50 #[.val (.ref r0), .val (.int p1), .val (.int (2 : Int32)), .val (.int (2 : Int32)), .val (.int (3 : Int32))] [(.int (2 : Int32))])) t → P0 t := by
            intro t kt
            refine K10 t ?_
            refine XS.icmpYes X9.here hx rfl (pc0 := 32) (pc' := 41) rfl (hb hby se_d32) rfl (tlt hc32_2).2.2.1 (by decide) (by decide) ?_
            refine XS.iload X9.here hx rfl (hb hby se_d41) rfl ?_
            refine XS.iconst X9.here hx rfl (hb hby se_d43) ?_
            show Steps p.tables e below (T9.setTop (mkF m 44 #[.val (.ref r0), .val (.int p1), .val (.int (2 : Int32)), .val (.int (3 : Int32)), .val (.int (3 : Int32))] [(.int (1 : Int32)), (.int (3 : Int32))])) t
            refine XS.isub X9.here hx rfl (hb hby se_d44) rfl ?_
            show Steps p.tables e below (T9.setTop (mkF m 45 #[.val (.ref r0), .val (.int p1), .val (.int (2 : Int32)), .val (.int (3 : Int32)), .val (.int (3 : Int32))] [(.int (2 : Int32))])) t
            refine XS.istoreN X9.here hx rfl (hb hby se_d45) rfl (l' := #[.val (.ref r0), .val (.int p1), .val (.int (2 : Int32)), .val (.int (2 : Int32)), .val (.int (3 : Int32))]) rfl ?_
            show Steps p.tables e below (T9.setTop (mkF m 46 #[.val (.ref r0), .val (.int p1), .val (.int (2 : Int32)), .val (.int (2 : Int32)), .val (.int (3 : Int32))] [])) t
            refine XS.goto X9.here hx rfl (pc0 := 46) (pc' := 10) rfl (hb hby se_d46) (by decide) (by decide) ?_
            refine XS.iloadN X9.here hx rfl (hb hby se_d10) rfl ?_
            refine XS.iloadN X9.here hx rfl (hb hby se_d11) rfl ?_
            show Steps p.tables e below (T9.setTop (mkF m 12 #[.val (.ref r0), .val (.int p1), .val (.int (2 : Int32)), .val (.int (2 : Int32)), .val (.int (3 : Int32))] [(.int (2 : Int32)), (.int (2 : Int32))])) t
            refine XS.icmpYes X9.here hx rfl (pc0 := 12) (pc' := 49) rfl (hb hby se_d12) rfl (flt (by decide)).2.1 (by decide) (by decide) ?_
            refine XS.iloadN X9.here hx rfl (hb hby se_d49) rfl ?_
            exact kt
          exact ⟨_, _, _, _, (if_pos hc32_2).symm, (hb hby se_d50), K11⟩
        · have K12 : ∀ t, Steps p.tables e below (T9.setTop (mkF m 50 #[.val (.ref r0), .val (.int p1), .val (.int (3 : Int32)), .val (.int (3 : Int32)), .val (.int (3 : Int32))] [(.int (3 : Int32))])) t → P0 t := by
            intro t kt
            refine K10 t ?_
            refine XS.icmpNo X9.here hx rfl (hb hby se_d32) rfl (flt hc32_2).2.2.1 ?_
            refine XS.iload X9.here hx rfl (hb hby se_d35) rfl ?_
            show Steps p.tables e below (T9.setTop (mkF m 37 #[.val (.ref r0), .val (.int p1), .val (.int (2 : Int32)), .val (.int (3 : Int32)), .val (.int (3 : Int32))] [(.int (3 : Int32))])) t
            refine XS.istoreN X9.here hx rfl (hb hby se_d37) rfl (l' := #[.val (.ref r0), .val (.int p1), .val (.int (3 : Int32)), .val (.int (3 : Int32)), .val (.int (3 : Int32))]) rfl ?_
            show Steps p.tables e below (T9.setTop (mkF m 38 #[.val (.ref r0), .val (.int p1), .val (.int (3 : Int32)), .val (.int (3 : Int32)), .val (.int (3 : Int32))] [])) t
            refine XS.goto X9.here hx rfl (pc0 := 38) (pc' := 46) rfl (hb hby se_d38) (by decide) (by decide) ?_
            show Steps p.tables e below (T9.setTop (mkF m 46 #[.val (.ref r0), .val (.int p1), .val (.int (3 : Int32)), .val (.int (3 : Int32)), .val (.int (3 : Int32))] [])) t
            refine XS.goto X9.here hx rfl (pc0 := 46) (pc' := 10) rfl (hb hby se_d46) (by decide) (by decide) ?_
            refine XS.iloadN X9.here hx rfl (hb hby se_d10) rfl ?_
            refine XS.iloadN X9.here hx rfl (hb hby se_d11) rfl ?_
            show Steps p.tables e below (T9.setTop (mkF m 12 #[.val (.ref r0), .val (.int p1), .val (.int (3 : Int32)), .val (.int (3 : Int32)), .val (.int (3 : Int32))] [(.int (3 : Int32)), (.int (3 : Int32))])) t
            refine XS.icmpYes X9.here hx rfl (pc0 := 12) (pc' := 49) rfl (hb hby se_d12) rfl (flt (by decide)).2.1 (by decide) (by decide) ?_
            refine XS.iloadN X9.here hx rfl (hb hby se_d49) rfl ?_
            exact kt
          exact ⟨_, _, _, _, (if_neg hc32_2).symm, (hb hby se_d50), K12⟩
      subst hjx32_1
      exact ⟨_, _, _, _, _, (if_neg hc32).symm, X9, e9, hdx32, K13⟩
  obtain ⟨fs, hr, hrun, hended, hW, hsame⟩ := X15.leave (v := some (.int jx32_2)) (fun h => by rw [Bd.returns] at h; cases h)
  refine ⟨_, _, ?_, hrun, hended, _, _, rfl, ?_, ⟨_, rfl⟩, hW, hsame.mono (by decide) (by decide)⟩
  · skip
    have q := K17 _ (retI X15 hx Bd.returns hdx32 hr)
    rw [hP0] at q; exact q
  · show QP (.int (fSeg4 p1 f)) h0 n0 _ T14.heap _
    rw [e16]
    subst hjx32_2
    exact ⟨rfl, N0, rfl⟩
theorem own_plain0 (p0 : Int32) (p1 : Int32) (p2 : Int32) (p3 : Int32) (p4 : Int32) (p5 : Int32) (dce : Addr) (v6 : Int32) (v12 : Int32) (v18 : Int32) (v24 : Int32) (v31 : Int32) (v161 : Int32) (v168 : Int32) (j238_s0 : Int32)
    (hn : ((p0 &&& (7 : Int32)) % (5 : Int32)) = (0 : Int32))
    (hv6 : v6 = ((p0 &&& (7 : Int32)) % (5 : Int32)))
    (hv12 : v12 = (p1 &&& (536870911 : Int32)))
    (hv18 : v18 = (p2 &&& (536870911 : Int32)))
    (hv24 : v24 = (p3 &&& (536870911 : Int32)))
    (hv31 : v31 = (p4 &&& (536870911 : Int32)))
    (hv161 : v161 = (v12 + v18))
    (hv168 : v168 = (v161 + v24))
    (hj238_s0 : j238_s0 = (if (fSeg0 p5 fB0) = (0 : Int32) then (1 : Int32) else (0 : Int32))) :
    j238_s0 = 1 := by
  have m1 := own_m29 hv12; have m2 := own_m29 hv18; have m3 := own_m29 hv24
  have s2 : v161.toInt = v12.toInt + v18.toInt := by rw [hv161]; exact own_add (by omega) (by omega) m2.1 m2.2
  have s3 : v168.toInt = v161.toInt + v24.toInt := by rw [hv168]; exact own_add (by omega) (by omega) m3.1 m3.2
  rw [hj238_s0, if_pos]
  simp only [fSeg0]
theorem own_plain1 (p0 : Int32) (p1 : Int32) (p2 : Int32) (p3 : Int32) (p4 : Int32) (p5 : Int32) (dce : Addr) (v6 : Int32) (v12 : Int32) (v18 : Int32) (v24 : Int32) (v31 : Int32) (v161 : Int32) (v168 : Int32) (j238_s0 : Int32)
    (hn : ((p0 &&& (7 : Int32)) % (5 : Int32)) = (1 : Int32))
    (hv6 : v6 = ((p0 &&& (7 : Int32)) % (5 : Int32)))
    (hv12 : v12 = (p1 &&& (536870911 : Int32)))
    (hv18 : v18 = (p2 &&& (536870911 : Int32)))
    (hv24 : v24 = (p3 &&& (536870911 : Int32)))
    (hv31 : v31 = (p4 &&& (536870911 : Int32)))
    (hv161 : v161 = (v12 + v18))
    (hv168 : v168 = (v161 + v24))
    (hj238_s0 : j238_s0 = (if (fSeg1 p5 (fB1 v12)) = (0 : Int32) then (1 : Int32) else (0 : Int32))) :
    j238_s0 = 1 := by
  have m1 := own_m29 hv12; have m2 := own_m29 hv18; have m3 := own_m29 hv24
  have s2 : v161.toInt = v12.toInt + v18.toInt := by rw [hv161]; exact own_add (by omega) (by omega) m2.1 m2.2
  have s3 : v168.toInt = v161.toInt + v24.toInt := by rw [hv168]; exact own_add (by omega) (by omega) m3.1 m3.2
  rw [hj238_s0, if_pos]
  simp only [fSeg1]
theorem own_plain2 (p0 : Int32) (p1 : Int32) (p2 : Int32) (p3 : Int32) (p4 : Int32) (p5 : Int32) (dce : Addr) (v6 : Int32) (v12 : Int32) (v18 : Int32) (v24 : Int32) (v31 : Int32) (v161 : Int32) (v168 : Int32) (j189_16 : Int32) (j238_s0 : Int32)
    (hn : ((p0 &&& (7 : Int32)) % (5 : Int32)) = (2 : Int32))
    (hv6 : v6 = ((p0 &&& (7 : Int32)) % (5 : Int32)))
    (hv12 : v12 = (p1 &&& (536870911 : Int32)))
    (hv18 : v18 = (p2 &&& (536870911 : Int32)))
    (hv24 : v24 = (p3 &&& (536870911 : Int32)))
    (hv31 : v31 = (p4 &&& (536870911 : Int32)))
    (hv161 : v161 = (v12 + v18))
    (hv168 : v168 = (v161 + v24))
    (hj189_16 : j189_16 = (if p5 < v12 then (0 : Int32) else (1 : Int32)))
    (hj238_s0 : j238_s0 = (if (fSeg2 p5 (fB2 v12 v18)) = j189_16 then (1 : Int32) else (0 : Int32))) :
    j238_s0 = 1 := by
  have m1 := own_m29 hv12; have m2 := own_m29 hv18; have m3 := own_m29 hv24
  have s2 : v161.toInt = v12.toInt + v18.toInt := by rw [hv161]; exact own_add (by omega) (by omega) m2.1 m2.2
  have s3 : v168.toInt = v161.toInt + v24.toInt := by rw [hv168]; exact own_add (by omega) (by omega) m3.1 m3.2
  have b1 : fB2 v12 v18 ((1 : Int32)).toNatClampNeg = v12 := by
    have q : fB2 v12 v18 ((1 : Int32)).toNatClampNeg = (0 : Int32) + v12 := rfl
    rw [q, Int32.zero_add]
  rw [hj238_s0, if_pos]
  simp only [fSeg2]
  rw [b1, hj189_16]
theorem own_plain3 (p0 : Int32) (p1 : Int32) (p2 : Int32) (p3 : Int32) (p4 : Int32) (p5 : Int32) (dce : Addr) (v6 : Int32) (v12 : Int32) (v18 : Int32) (v24 : Int32) (v31 : Int32) (v161 : Int32) (v168 : Int32) (j189_16 : Int32) (j205_16 : Int32) (j238_s0 : Int32)
    (hn : ((p0 &&& (7 : Int32)) % (5 : Int32)) = (3 : Int32))
    (hv6 : v6 = ((p0 &&& (7 : Int32)) % (5 : Int32)))
    (hv12 : v12 = (p1 &&& (536870911 : Int32)))
    (hv18 : v18 = (p2 &&& (536870911 : Int32)))
    (hv24 : v24 = (p3 &&& (536870911 : Int32)))
    (hv31 : v31 = (p4 &&& (536870911 : Int32)))
    (hv161 : v161 = (v12 + v18))
    (hv168 : v168 = (v161 + v24))
    (hj189_16 : j189_16 = (if p5 < v12 then (0 : Int32) else (1 : Int32)))
    (hj205_16 : j205_16 = (if p5 < v161 then j189_16 else (2 : Int32)))
    (hj238_s0 : j238_s0 = (if (fSeg3 p5 (fB3 v12 v18 v24)) = j205_16 then (1 : Int32) else (0 : Int32))) :
    j238_s0 = 1 := by
  have m1 := own_m29 hv12; have m2 := own_m29 hv18; have m3 := own_m29 hv24
  have s2 : v161.toInt = v12.toInt + v18.toInt := by rw [hv161]; exact own_add (by omega) (by omega) m2.1 m2.2
  have s3 : v168.toInt = v161.toInt + v24.toInt := by rw [hv168]; exact own_add (by omega) (by omega) m3.1 m3.2
  have b1 : fB3 v12 v18 v24 ((1 : Int32)).toNatClampNeg = v12 := by
    have q : fB3 v12 v18 v24 ((1 : Int32)).toNatClampNeg = (0 : Int32) + v12 := rfl
    rw [q, Int32.zero_add]
  have b2 : fB3 v12 v18 v24 ((2 : Int32)).toNatClampNeg = v161 := by
    have q : fB3 v12 v18 v24 ((2 : Int32)).toNatClampNeg = ((0 : Int32) + v12) + v18 := rfl
    rw [q, Int32.zero_add, ← hv161]
  rw [hj238_s0, if_pos]
  simp only [fSeg3]
  rw [b1, b2, hj205_16, hj189_16]
  simp only [Int32.lt_iff_toInt_lt]
  repeat' split
  all_goals first | rfl | (exfalso; omega)

theorem own_plain4 (p0 : Int32) (p1 : Int32) (p2 : Int32) (p3 : Int32) (p4 : Int32) (p5 : Int32) (dce : Addr) (v6 : Int32) (v12 : Int32) (v18 : Int32) (v24 : Int32) (v31 : Int32) (v161 : Int32) (v168 : Int32) (j189_16 : Int32) (j205_16 : Int32) (j221_16 : Int32) (j238_s0 : Int32)
    (hn : ((p0 &&& (7 : Int32)) % (5 : Int32)) = (4 : Int32))
    (hv6 : v6 = ((p0 &&& (7 : Int32)) % (5 : Int32)))
    (hv12 : v12 = (p1 &&& (536870911 : Int32)))
    (hv18 : v18 = (p2 &&& (536870911 : Int32)))
    (hv24 : v24 = (p3 &&& (536870911 : Int32)))
    (hv31 : v31 = (p4 &&& (536870911 : Int32)))
    (hv161 : v161 = (v12 + v18))
    (hv168 : v168 = (v161 + v24))
    (hj189_16 : j189_16 = (if p5 < v12 then (0 : Int32) else (1 : Int32)))
    (hj205_16 : j205_16 = (if p5 < v161 then j189_16 else (2 : Int32)))
    (hj221_16 : j221_16 = (if p5 < v168 then j205_16 else (3 : Int32)))
    (hj238_s0 : j238_s0 = (if (fSeg4 p5 (fB4 v12 v18 v24 v31)) = j221_16 then (1 : Int32) else (0 : Int32))) :
    j238_s0 = 1 := by
  have m1 := own_m29 hv12; have m2 := own_m29 hv18; have m3 := own_m29 hv24
  have s2 : v161.toInt = v12.toInt + v18.toInt := by rw [hv161]; exact own_add (by omega) (by omega) m2.1 m2.2
  have s3 : v168.toInt = v161.toInt + v24.toInt := by rw [hv168]; exact own_add (by omega) (by omega) m3.1 m3.2
  have b1 : fB4 v12 v18 v24 v31 ((1 : Int32)).toNatClampNeg = v12 := by
    have q : fB4 v12 v18 v24 v31 ((1 : Int32)).toNatClampNeg = (0 : Int32) + v12 := rfl
    rw [q, Int32.zero_add]
  have b2 : fB4 v12 v18 v24 v31 ((2 : Int32)).toNatClampNeg = v161 := by
    have q : fB4 v12 v18 v24 v31 ((2 : Int32)).toNatClampNeg = ((0 : Int32) + v12) + v18 := rfl
    rw [q, Int32.zero_add, ← hv161]
  have b3 : fB4 v12 v18 v24 v31 ((3 : Int32)).toNatClampNeg = v168 := by
    have q : fB4 v12 v18 v24 v31 ((3 : Int32)).toNatClampNeg = (((0 : Int32) + v12) + v18) + v24 := rfl
    rw [q, Int32.zero_add, ← hv161, ← hv168]
  rw [hj238_s0, if_pos]
  simp only [fSeg4]
  rw [b2, b1, b3, hj221_16, hj205_16, hj189_16]
  simp only [Int32.lt_iff_toInt_lt]
  repeat' split
  all_goals first | rfl | (exfalso; omega)

theorem law0_pn : plainName "com/example/termwright/termwright/DocumentNumbersSegmentOfPinLaw" = true := by first | (simp [plainName, overriddenIn]; done) | decide +kernel
theorem law0_pd0 : parseMethodDescriptor "()V" = some ⟨[], none⟩ := by decide +kernel
theorem law0_pd1 : parseMethodDescriptor "(Ljava/util/List;)V" = some ⟨[(.object "java/util/List")], none⟩ := by decide +kernel
theorem law0_pd2 : parseMethodDescriptor "(I)I" = some ⟨[.int], some .int⟩ := by decide +kernel
theorem law0_ef (m : MethodId) (x0 : Int32) (x1 : Int32) (x2 : Int32) (x3 : Int32) (x4 : Int32) (x5 : Int32) : entryFrame m #[(.int x0), (.int x1), (.int x2), (.int x3), (.int x4), (.int x5)] maxLocals = mkF m 0 #[.val (.int x0), .val (.int x1), .val (.int x2), .val (.int x3), .val (.int x4), .val (.int x5), .unset, .unset, .unset, .unset, .unset, .unset, .unset, .unset, .unset, .unset, .unset] [] := by first | (simp [entryFrame, mkF, argsToLocals, Value.category, maxLocals]; done) | rfl
set_option maxRecDepth 65536 in
set_option maxHeartbeats 40000000 in
theorem rm_law0 (l : Launch) (Z : State) (a0 : Array Value) (hw : ∀ d ∈ tables_1, d.before a0 Z = true) (ws : List Jvm.Cond) (p0 : Int32) (p1 : Int32) (p2 : Int32) (p3 : Int32) (p4 : Int32) (p5 : Int32) (dce : Addr) (h0 : Heap) (n0 : Nat) (Z0 : n0 ≤ h0.size) (H0 : LA Z h0 dce 0) (H1 : Sta Z h0 "java/util/ArrayList" "DEFAULTCAPACITY_EMPTY_ELEMENTDATA" "[Ljava/lang/Object;" (.ref dce)) (hn : ((p0 &&& (7 : Int32)) % (5 : Int32)) = (0 : Int32)) :
    MetFree l x (head1 (Jvm.Cond.code x code maxLocals ret :: ws) room_1) (fun a U => a = #[(.int p0), (.int p1), (.int p2), (.int p3), (.int p4), (.int p5)] ∧ Z.Warmed39 U.vm ∧ U.heap = h0) (fun _ _ _ _ _ => True) (fun _ U o U' => ∃ v L, o = .returned v ∧ QL n0 v U'.heap L ∧ ReturnedEndW U o U' L room_1.cells room_1.slots) := by
  refine MetFree.of_bodySF (plainFor_of_name law0_pn) hisR ?_
  intro p e s m args below meth c s₁ Bd hml0 hP hK
  obtain ⟨rfl, hZ, hh⟩ := hP
  have hx := Bd.exec
  have hby := Bd.bytes
  have hml : c.maxLocals = 17 := hml0
  have hown : s.vm.findClass "com/example/termwright/termwright/DocumentNumbersSegmentOfPinLaw" = some m.cls := findClass_of_methodNamed Bd.named
  have hnm := (name_of_methodNamed Bd.named Bd.method).1
  have X0 : Stand p l e room_1 s m #[(.int p0), (.int p1), (.int p2), (.int p3), (.int p4), (.int p5)] below meth c s₁ [] 0 0 := Stand.of_body Bd
  have e0 : s₁.heap = h0 := by rw [← hh, Bd.state]; rfl
  have N0 := Fr.nil n0
  have hstr : ∀ d ∈ Bundle.stringAtoms, d.before a0 Z = true := by
    intro d hd
    simp only [Bundle.stringAtoms, List.mem_cons, List.not_mem_nil, or_false] at hd
    rcases hd with rfl | rfl | rfl | rfl | rfl | rfl | rfl
    · exact (hw _ (gw 61 rfl))
    · exact (hw _ (gw 62 rfl))
    · exact (hw _ (gw 63 rfl))
    · exact (hw _ (gw 64 rfl))
    · exact (hw _ (gw 65 rfl))
    · exact (hw _ (gw 66 rfl))
    · exact (hw _ (gw 67 rfl))
  obtain ⟨P0, hP0⟩ : ∃ P0 : State → Prop, P0 = fun t => Steps p.tables e below (s₁.setTop (entryFrame m #[(.int p0), (.int p1), (.int p2), (.int p3), (.int p4), (.int p5)] maxLocals)) t := ⟨_, rfl⟩
  have K0 : ∀ t, Steps p.tables e below (s₁.setTop (mkF m 0 #[.val (.int p0), .val (.int p1), .val (.int p2), .val (.int p3), .val (.int p4), .val (.int p5), .unset, .unset, .unset, .unset, .unset, .unset, .unset, .unset, .unset, .unset, .unset] [])) t → P0 t := by
    intro t k; rw [hP0]; exact castTop (law0_ef m p0 p1 p2 p3 p4 p5) k
  have K1 : ∀ t, Steps p.tables e below (s₁.setTop (mkF m 8 #[.val (.int p0), .val (.int p1), .val (.int p2), .val (.int p3), .val (.int p4), .val (.int p5), .val (.int ((p0 &&& (7 : Int32)) % (5 : Int32))), .unset, .unset, .unset, .unset, .unset, .unset, .unset, .unset, .unset, .unset] [])) t → P0 t := by
    intro t kt
    refine K0 t ?_
    refine XS.iloadN X0.here hx rfl (hb hby at_0) rfl ?_
    refine XS.bipush X0.here hx rfl (hb hby at_1) ?_
    show Steps p.tables e below (s₁.setTop (mkF m 3 #[.val (.int p0), .val (.int p1), .val (.int p2), .val (.int p3), .val (.int p4), .val (.int p5), .unset, .unset, .unset, .unset, .unset, .unset, .unset, .unset, .unset, .unset, .unset] [(.int (7 : Int32)), (.int p0)])) t
    refine XS.iand X0.here hx rfl (hb hby at_3) rfl ?_
    refine XS.iconst X0.here hx rfl (hb hby at_4) ?_
    show Steps p.tables e below (s₁.setTop (mkF m 5 #[.val (.int p0), .val (.int p1), .val (.int p2), .val (.int p3), .val (.int p4), .val (.int p5), .unset, .unset, .unset, .unset, .unset, .unset, .unset, .unset, .unset, .unset, .unset] [(.int (5 : Int32)), (.int (p0 &&& (7 : Int32)))])) t
    refine iremM X0 hx rfl (hb hby at_5) rfl (by decide) ?_
    show Steps p.tables e below (s₁.setTop (mkF m 6 #[.val (.int p0), .val (.int p1), .val (.int p2), .val (.int p3), .val (.int p4), .val (.int p5), .unset, .unset, .unset, .unset, .unset, .unset, .unset, .unset, .unset, .unset, .unset] [(.int ((p0 &&& (7 : Int32)) % (5 : Int32)))])) t
    refine XS.istore X0.here hx rfl (hb hby at_6) rfl (l' := #[.val (.int p0), .val (.int p1), .val (.int p2), .val (.int p3), .val (.int p4), .val (.int p5), .val (.int ((p0 &&& (7 : Int32)) % (5 : Int32))), .unset, .unset, .unset, .unset, .unset, .unset, .unset, .unset, .unset, .unset]) rfl ?_
    exact kt
  obtain ⟨v6, hv6, K2⟩ : ∃ v6 : Int32, v6 = ((p0 &&& (7 : Int32)) % (5 : Int32)) ∧ ∀ t, Steps p.tables e below (s₁.setTop (mkF m 8 #[.val (.int p0), .val (.int p1), .val (.int p2), .val (.int p3), .val (.int p4), .val (.int p5), .val (.int v6), .unset, .unset, .unset, .unset, .unset, .unset, .unset, .unset, .unset, .unset] [])) t → P0 t := ⟨_, rfl, K1⟩
  have K3 : ∀ t, Steps p.tables e below (s₁.setTop (mkF m 14 #[.val (.int p0), .val (.int p1), .val (.int p2), .val (.int p3), .val (.int p4), .val (.int p5), .val (.int v6), .val (.int (p1 &&& (536870911 : Int32))), .unset, .unset, .unset, .unset, .unset, .unset, .unset, .unset, .unset] [])) t → P0 t := by
    intro t kt
    refine K2 t ?_
    refine XS.iloadN X0.here hx rfl (hb hby at_8) rfl ?_
    show Steps p.tables e below (s₁.setTop (mkF m 9 #[.val (.int p0), .val (.int p1), .val (.int p2), .val (.int p3), .val (.int p4), .val (.int p5), .val (.int v6), .unset, .unset, .unset, .unset, .unset, .unset, .unset, .unset, .unset, .unset] [(.int p1)])) t
    refine X0.ldcInt hx hown (mvT hZ (hw _ (gw 0 rfl))) (g := (mkF m 9 #[.val (.int p0), .val (.int p1), .val (.int p2), .val (.int p3), .val (.int p4), .val (.int p5), .val (.int v6), .unset, .unset, .unset, .unset, .unset, .unset, .unset, .unset, .unset, .unset] [(.int p1)])) rfl (hb hby at_9) _ ?_
    show Steps p.tables e below (s₁.setTop (mkF m 11 #[.val (.int p0), .val (.int p1), .val (.int p2), .val (.int p3), .val (.int p4), .val (.int p5), .val (.int v6), .unset, .unset, .unset, .unset, .unset, .unset, .unset, .unset, .unset, .unset] [(.int (536870911 : Int32)), (.int p1)])) t
    refine XS.iand X0.here hx rfl (hb hby at_11) rfl ?_
    show Steps p.tables e below (s₁.setTop (mkF m 12 #[.val (.int p0), .val (.int p1), .val (.int p2), .val (.int p3), .val (.int p4), .val (.int p5), .val (.int v6), .unset, .unset, .unset, .unset, .unset, .unset, .unset, .unset, .unset, .unset] [(.int (p1 &&& (536870911 : Int32)))])) t
    refine XS.istore X0.here hx rfl (hb hby at_12) rfl (l' := #[.val (.int p0), .val (.int p1), .val (.int p2), .val (.int p3), .val (.int p4), .val (.int p5), .val (.int v6), .val (.int (p1 &&& (536870911 : Int32))), .unset, .unset, .unset, .unset, .unset, .unset, .unset, .unset, .unset]) rfl ?_
    exact kt
  obtain ⟨v12, hv12, K4⟩ : ∃ v12 : Int32, v12 = (p1 &&& (536870911 : Int32)) ∧ ∀ t, Steps p.tables e below (s₁.setTop (mkF m 14 #[.val (.int p0), .val (.int p1), .val (.int p2), .val (.int p3), .val (.int p4), .val (.int p5), .val (.int v6), .val (.int v12), .unset, .unset, .unset, .unset, .unset, .unset, .unset, .unset, .unset] [])) t → P0 t := ⟨_, rfl, K3⟩
  have K5 : ∀ t, Steps p.tables e below (s₁.setTop (mkF m 20 #[.val (.int p0), .val (.int p1), .val (.int p2), .val (.int p3), .val (.int p4), .val (.int p5), .val (.int v6), .val (.int v12), .val (.int (p2 &&& (536870911 : Int32))), .unset, .unset, .unset, .unset, .unset, .unset, .unset, .unset] [])) t → P0 t := by
    intro t kt
    refine K4 t ?_
    refine XS.iloadN X0.here hx rfl (hb hby at_14) rfl ?_
    show Steps p.tables e below (s₁.setTop (mkF m 15 #[.val (.int p0), .val (.int p1), .val (.int p2), .val (.int p3), .val (.int p4), .val (.int p5), .val (.int v6), .val (.int v12), .unset, .unset, .unset, .unset, .unset, .unset, .unset, .unset, .unset] [(.int p2)])) t
    refine X0.ldcInt hx hown (mvT hZ (hw _ (gw 0 rfl))) (g := (mkF m 15 #[.val (.int p0), .val (.int p1), .val (.int p2), .val (.int p3), .val (.int p4), .val (.int p5), .val (.int v6), .val (.int v12), .unset, .unset, .unset, .unset, .unset, .unset, .unset, .unset, .unset] [(.int p2)])) rfl (hb hby at_15) _ ?_
    show Steps p.tables e below (s₁.setTop (mkF m 17 #[.val (.int p0), .val (.int p1), .val (.int p2), .val (.int p3), .val (.int p4), .val (.int p5), .val (.int v6), .val (.int v12), .unset, .unset, .unset, .unset, .unset, .unset, .unset, .unset, .unset] [(.int (536870911 : Int32)), (.int p2)])) t
    refine XS.iand X0.here hx rfl (hb hby at_17) rfl ?_
    show Steps p.tables e below (s₁.setTop (mkF m 18 #[.val (.int p0), .val (.int p1), .val (.int p2), .val (.int p3), .val (.int p4), .val (.int p5), .val (.int v6), .val (.int v12), .unset, .unset, .unset, .unset, .unset, .unset, .unset, .unset, .unset] [(.int (p2 &&& (536870911 : Int32)))])) t
    refine XS.istore X0.here hx rfl (hb hby at_18) rfl (l' := #[.val (.int p0), .val (.int p1), .val (.int p2), .val (.int p3), .val (.int p4), .val (.int p5), .val (.int v6), .val (.int v12), .val (.int (p2 &&& (536870911 : Int32))), .unset, .unset, .unset, .unset, .unset, .unset, .unset, .unset]) rfl ?_
    exact kt
  obtain ⟨v18, hv18, K6⟩ : ∃ v18 : Int32, v18 = (p2 &&& (536870911 : Int32)) ∧ ∀ t, Steps p.tables e below (s₁.setTop (mkF m 20 #[.val (.int p0), .val (.int p1), .val (.int p2), .val (.int p3), .val (.int p4), .val (.int p5), .val (.int v6), .val (.int v12), .val (.int v18), .unset, .unset, .unset, .unset, .unset, .unset, .unset, .unset] [])) t → P0 t := ⟨_, rfl, K5⟩
  have K7 : ∀ t, Steps p.tables e below (s₁.setTop (mkF m 26 #[.val (.int p0), .val (.int p1), .val (.int p2), .val (.int p3), .val (.int p4), .val (.int p5), .val (.int v6), .val (.int v12), .val (.int v18), .val (.int (p3 &&& (536870911 : Int32))), .unset, .unset, .unset, .unset, .unset, .unset, .unset] [])) t → P0 t := by
    intro t kt
    refine K6 t ?_
    refine XS.iloadN X0.here hx rfl (hb hby at_20) rfl ?_
    show Steps p.tables e below (s₁.setTop (mkF m 21 #[.val (.int p0), .val (.int p1), .val (.int p2), .val (.int p3), .val (.int p4), .val (.int p5), .val (.int v6), .val (.int v12), .val (.int v18), .unset, .unset, .unset, .unset, .unset, .unset, .unset, .unset] [(.int p3)])) t
    refine X0.ldcInt hx hown (mvT hZ (hw _ (gw 0 rfl))) (g := (mkF m 21 #[.val (.int p0), .val (.int p1), .val (.int p2), .val (.int p3), .val (.int p4), .val (.int p5), .val (.int v6), .val (.int v12), .val (.int v18), .unset, .unset, .unset, .unset, .unset, .unset, .unset, .unset] [(.int p3)])) rfl (hb hby at_21) _ ?_
    show Steps p.tables e below (s₁.setTop (mkF m 23 #[.val (.int p0), .val (.int p1), .val (.int p2), .val (.int p3), .val (.int p4), .val (.int p5), .val (.int v6), .val (.int v12), .val (.int v18), .unset, .unset, .unset, .unset, .unset, .unset, .unset, .unset] [(.int (536870911 : Int32)), (.int p3)])) t
    refine XS.iand X0.here hx rfl (hb hby at_23) rfl ?_
    show Steps p.tables e below (s₁.setTop (mkF m 24 #[.val (.int p0), .val (.int p1), .val (.int p2), .val (.int p3), .val (.int p4), .val (.int p5), .val (.int v6), .val (.int v12), .val (.int v18), .unset, .unset, .unset, .unset, .unset, .unset, .unset, .unset] [(.int (p3 &&& (536870911 : Int32)))])) t
    refine XS.istore X0.here hx rfl (hb hby at_24) rfl (l' := #[.val (.int p0), .val (.int p1), .val (.int p2), .val (.int p3), .val (.int p4), .val (.int p5), .val (.int v6), .val (.int v12), .val (.int v18), .val (.int (p3 &&& (536870911 : Int32))), .unset, .unset, .unset, .unset, .unset, .unset, .unset]) rfl ?_
    exact kt
  obtain ⟨v24, hv24, K8⟩ : ∃ v24 : Int32, v24 = (p3 &&& (536870911 : Int32)) ∧ ∀ t, Steps p.tables e below (s₁.setTop (mkF m 26 #[.val (.int p0), .val (.int p1), .val (.int p2), .val (.int p3), .val (.int p4), .val (.int p5), .val (.int v6), .val (.int v12), .val (.int v18), .val (.int v24), .unset, .unset, .unset, .unset, .unset, .unset, .unset] [])) t → P0 t := ⟨_, rfl, K7⟩
  have K9 : ∀ t, Steps p.tables e below (s₁.setTop (mkF m 33 #[.val (.int p0), .val (.int p1), .val (.int p2), .val (.int p3), .val (.int p4), .val (.int p5), .val (.int v6), .val (.int v12), .val (.int v18), .val (.int v24), .val (.int (p4 &&& (536870911 : Int32))), .unset, .unset, .unset, .unset, .unset, .unset] [])) t → P0 t := by
    intro t kt
    refine K8 t ?_
    refine XS.iload X0.here hx rfl (hb hby at_26) rfl ?_
    show Steps p.tables e below (s₁.setTop (mkF m 28 #[.val (.int p0), .val (.int p1), .val (.int p2), .val (.int p3), .val (.int p4), .val (.int p5), .val (.int v6), .val (.int v12), .val (.int v18), .val (.int v24), .unset, .unset, .unset, .unset, .unset, .unset, .unset] [(.int p4)])) t
    refine X0.ldcInt hx hown (mvT hZ (hw _ (gw 0 rfl))) (g := (mkF m 28 #[.val (.int p0), .val (.int p1), .val (.int p2), .val (.int p3), .val (.int p4), .val (.int p5), .val (.int v6), .val (.int v12), .val (.int v18), .val (.int v24), .unset, .unset, .unset, .unset, .unset, .unset, .unset] [(.int p4)])) rfl (hb hby at_28) _ ?_
    show Steps p.tables e below (s₁.setTop (mkF m 30 #[.val (.int p0), .val (.int p1), .val (.int p2), .val (.int p3), .val (.int p4), .val (.int p5), .val (.int v6), .val (.int v12), .val (.int v18), .val (.int v24), .unset, .unset, .unset, .unset, .unset, .unset, .unset] [(.int (536870911 : Int32)), (.int p4)])) t
    refine XS.iand X0.here hx rfl (hb hby at_30) rfl ?_
    show Steps p.tables e below (s₁.setTop (mkF m 31 #[.val (.int p0), .val (.int p1), .val (.int p2), .val (.int p3), .val (.int p4), .val (.int p5), .val (.int v6), .val (.int v12), .val (.int v18), .val (.int v24), .unset, .unset, .unset, .unset, .unset, .unset, .unset] [(.int (p4 &&& (536870911 : Int32)))])) t
    refine XS.istore X0.here hx rfl (hb hby at_31) rfl (l' := #[.val (.int p0), .val (.int p1), .val (.int p2), .val (.int p3), .val (.int p4), .val (.int p5), .val (.int v6), .val (.int v12), .val (.int v18), .val (.int v24), .val (.int (p4 &&& (536870911 : Int32))), .unset, .unset, .unset, .unset, .unset, .unset]) rfl ?_
    exact kt
  obtain ⟨v31, hv31, K10⟩ : ∃ v31 : Int32, v31 = (p4 &&& (536870911 : Int32)) ∧ ∀ t, Steps p.tables e below (s₁.setTop (mkF m 33 #[.val (.int p0), .val (.int p1), .val (.int p2), .val (.int p3), .val (.int p4), .val (.int p5), .val (.int v6), .val (.int v12), .val (.int v18), .val (.int v24), .val (.int v31), .unset, .unset, .unset, .unset, .unset, .unset] [])) t → P0 t := ⟨_, rfl, K9⟩
  obtain ⟨T11, h11, X11, e11, E11, A11, D11, -, st11⟩ := newO X0 hx hZ hown (hw _ (gw 1 rfl)) (hw _ (gw 2 rfl)) (hw _ (gw 3 rfl)) e0 (g := (mkF m 33 #[.val (.int p0), .val (.int p1), .val (.int p2), .val (.int p3), .val (.int p4), .val (.int p5), .val (.int v6), .val (.int v12), .val (.int v18), .val (.int v24), .val (.int v31), .unset, .unset, .unset, .unset, .unset, .unset] [])) rfl (hb hby at_33) (by decide) (by decide)
  obtain ⟨b33, g11⟩ : ∃ z, z = h0.size := ⟨_, rfl⟩
  have g_b33 : n0 ≤ b33 := Nat.le_trans Z0 (Nat.le_of_eq g11.symm)
  have ne_dce_b33 : dce ≠ b33 := Nat.ne_of_lt (Nat.lt_of_lt_of_le H0.lt (Nat.le_of_eq g11.symm))
  rw [← g11] at A11 D11 st11
  have Z11 : n0 ≤ h11.size := Nat.le_trans Z0 E11.1
  have F12 := H0.ext E11
  have F13 := Sta.ext E11 H1
  have F14 : Fld Z h11 b33 "java/util/AbstractList" "modCount" "I" (.int (0 : Int32)) := D11 (Or.inl (hw _ (gw 23 rfl))) (ty := .int) (by decide)
  have F15 : Fld Z h11 b33 "java/util/ArrayList" "elementData" "[Ljava/lang/Object;" .null := D11 (Or.inl (hw _ (gw 26 rfl))) (ty := (.array (.object "java/lang/Object"))) (by decide)
  have F16 : Fld Z h11 b33 "java/util/ArrayList" "size" "I" (.int (0 : Int32)) := D11 (Or.inl (hw _ (gw 44 rfl))) (ty := .int) (by decide)
  obtain ⟨_, _, ⟨T17, L17, k17, n17⟩, -, X17, ⟨Lc17, hQ17, l17, y17, z17⟩, st17⟩ := X11.specialBack hx (y := (⟨"java/util/ArrayList", "<init>", "()V"⟩ : MethodName)) rfl hown (mvT hZ (hw _ (gw 4 rfl))) (mvT hZ (hw _ (gw 5 rfl))) (mvT hZ (hw _ (gw 6 rfl))) (by decide) (backOf (W := 1) (rm_ali l Z a0 hw [] b33 _ _ (0 : Int32) dce h11 n0 Z11 A11 F14 F15 F16 F13 g_b33) hZ (hw _ (gw 6 rfl)) (hw _ (gw 3 rfl)) (by decide) (by decide)) (g := (mkF m 37 #[.val (.int p0), .val (.int p1), .val (.int p2), .val (.int p3), .val (.int p4), .val (.int p5), .val (.int v6), .val (.int v12), .val (.int v18), .val (.int v24), .val (.int v31), .unset, .unset, .unset, .unset, .unset, .unset] [(.ref b33), (.ref b33)])) rfl (by rw [hml]; rfl) (Steps.refl _) (a := b33) (argsL := []) (rest := [(.ref b33)]) (lenOf law0_pd0 rfl) rfl (by show 2 * 0 + _ ≤ _; exact Nat.le_of_eq rfl) (hb hby at_37) (fun _ _ => ⟨rfl, e11, (by decide : 1 + 0 ≤ _), (by decide : 3 + 0 ≤ _)⟩)
  dsimp only [Pt.U, Pt.locs, Pt.cells, Pt.slots] at X17 l17 y17 z17 st17 hQ17
  rw [l17, y17, z17] at X17
  obtain ⟨h17, e17⟩ : ∃ z, T17.heap = z := ⟨_, rfl⟩
  rw [e17] at hQ17
  obtain ⟨rfl, N17q, Kq17, F18, F19, F20, F21⟩ := hQ17
  have N17 := Fr.app N0 N17q
  have Z17 : n0 ≤ h17.size := Nat.le_trans Z11 Kq17.1
  have F22 := F12.keep Kq17 (ninS ne_dce_b33 nin0)
  have F23 := own_keepS F13 Kq17 (allS (own_plE A11) all0)
  obtain ⟨T24, h24, X24, e24, E24, A24, D24, -, st24⟩ := newO X17 hx hZ hown (hw _ (gw 27 rfl)) (hw _ (gw 28 rfl)) (hw _ (gw 29 rfl)) e17 (g := (mkF m 141 #[.val (.int p0), .val (.int p1), .val (.int p2), .val (.int p3), .val (.int p4), .val (.int p5), .val (.int v6), .val (.int v12), .val (.int v18), .val (.int v24), .val (.int v31), .val (.ref b33), .unset, .unset, .unset, .unset, .unset] [])) rfl (hb hby at_141) (by decide) (by decide)
  obtain ⟨b141, g24⟩ : ∃ z, z = h17.size := ⟨_, rfl⟩
  have g_b141 : n0 ≤ b141 := Nat.le_trans Z17 (Nat.le_of_eq g24.symm)
  have ne_dce_b141 : dce ≠ b141 := Nat.ne_of_lt (Nat.lt_of_lt_of_le F22.lt (Nat.le_of_eq g24.symm))
  have ne_b33_b141 : b33 ≠ b141 := Nat.ne_of_lt (Nat.lt_of_lt_of_le F18.lt (Nat.le_of_eq g24.symm))
  rw [← g24] at A24 D24 st24
  have Z24 : n0 ≤ h24.size := Nat.le_trans Z17 E24.1
  have F25 := F22.ext E24
  have F26 := Sta.ext E24 F23
  have F27 := Exa.ext E24 F18
  have F28 := Fld.ext E24 F19
  have F29 := Fld.ext E24 F20
  have F30 := Fld.ext E24 F21
  have F31 : Fld Z h24 b141 "com/example/termwright/termwright/DocumentNumbers" "bases" "[I" .null := D24 (Or.inr (hw _ (gw 47 rfl))) (ty := (.array .int)) (by decide)
  have F32 : Fld Z h24 b141 "com/example/termwright/termwright/DocumentNumbers" "count" "I" (.int (0 : Int32)) := D24 (Or.inr (hw _ (gw 49 rfl))) (ty := .int) (by decide)
  have F33 : Fld Z h24 b141 "com/example/termwright/termwright/DocumentNumbers" "deletedCount" "I" (.int (0 : Int32)) := D24 (Or.inr (hw _ (gw 51 rfl))) (ty := .int) (by decide)
  obtain ⟨_, _, ⟨T34, L34, k34, n34⟩, -, X34, ⟨Lc34, hQ34, l34, y34, z34⟩, st34⟩ := X24.specialBack hx (y := (⟨"com/example/termwright/termwright/DocumentNumbers", "<init>", "(Ljava/util/List;)V"⟩ : MethodName)) rfl hown (mvT hZ (hw _ (gw 30 rfl))) (mvT hZ (hw _ (gw 31 rfl))) (mvT hZ (hw _ (gw 32 rfl))) (by decide) (backOf (W := 1) (rm_dn0 l Z a0 hw [] b141 b33 _ _ _  h24 n0 Z24 A24 F31 F32 F33 F27 F30 g_b141 (Ne.symm ne_b33_b141)) hZ (hw _ (gw 32 rfl)) (hw _ (gw 29 rfl)) (by decide) (by decide)) (g := (mkF m 147 #[.val (.int p0), .val (.int p1), .val (.int p2), .val (.int p3), .val (.int p4), .val (.int p5), .val (.int v6), .val (.int v12), .val (.int v18), .val (.int v24), .val (.int v31), .val (.ref b33), .unset, .unset, .unset, .unset, .unset] [(.ref b33), (.ref b141), (.ref b141)])) rfl (by rw [hml]; rfl) (Steps.refl _) (a := b141) (argsL := [(.ref b33)]) (rest := [(.ref b141)]) (lenOf law0_pd1 rfl) rfl (by show 2 * 0 + _ ≤ _; exact Nat.le_of_eq rfl) (hb hby at_147) (fun _ _ => ⟨rfl, e24, (by decide : 2 + 1 ≤ _), (by decide : 6 + 0 ≤ _)⟩)
  dsimp only [Pt.U, Pt.locs, Pt.cells, Pt.slots] at X34 l34 y34 z34 st34 hQ34
  rw [l34, y34, z34] at X34
  obtain ⟨h34, e34⟩ : ∃ z, T34.heap = z := ⟨_, rfl⟩
  rw [e34] at hQ34
  obtain ⟨bb, rfl, N34q, Kq34, gs_bb, F35, F36, F37⟩ := hQ34
  have N34 := Fr.app N17 N34q
  have g_bb : n0 ≤ bb := Nat.le_trans Z24 gs_bb
  have ne_dce_bb : dce ≠ bb := Nat.ne_of_lt (Nat.lt_of_lt_of_le F25.lt gs_bb)
  have ne_b33_bb : b33 ≠ bb := Nat.ne_of_lt (Nat.lt_of_lt_of_le F27.lt gs_bb)
  have ne_b141_bb : b141 ≠ bb := Nat.ne_of_lt (Nat.lt_of_lt_of_le A24.lt gs_bb)
  have Z34 : n0 ≤ h34.size := Nat.le_trans Z24 Kq34.1
  have F38 := F25.keep Kq34 (ninS ne_dce_b141 nin0)
  have F39 := own_keepS F26 Kq34 (allS (own_plE A24) all0)
  have F40 := F27.keep Kq34
  have F41 := F28.keep Kq34 (ninS ne_b33_b141 nin0)
  have F42 := F29.keep Kq34 (ninS ne_b33_b141 nin0)
  have F43 := F30.keep Kq34 (ninS ne_b33_b141 nin0)
  have K44 : ∀ t, Steps p.tables e below (T34.setTop (mkF m 163 #[.val (.int p0), .val (.int p1), .val (.int p2), .val (.int p3), .val (.int p4), .val (.int p5), .val (.int v6), .val (.int v12), .val (.int v18), .val (.int v24), .val (.int v31), .val (.ref b33), .val (.ref b141), .val (.int v12), .val (.int (v12 + v18)), .unset, .unset] [])) t → P0 t := by
    intro t kt
    refine K10 t ?_
    show Steps p.tables e below (s₁.setTop (mkF m 33 #[.val (.int p0), .val (.int p1), .val (.int p2), .val (.int p3), .val (.int p4), .val (.int p5), .val (.int v6), .val (.int v12), .val (.int v18), .val (.int v24), .val (.int v31), .unset, .unset, .unset, .unset, .unset, .unset] [])) t
    refine st11 _ ?_
    show Steps p.tables e below (T11.setTop (mkF m 36 #[.val (.int p0), .val (.int p1), .val (.int p2), .val (.int p3), .val (.int p4), .val (.int p5), .val (.int v6), .val (.int v12), .val (.int v18), .val (.int v24), .val (.int v31), .unset, .unset, .unset, .unset, .unset, .unset] [(.ref b33)])) t
    refine XS.dup X11.here hx rfl (hb hby at_36) rfl rfl ?_
    show Steps p.tables e below (T11.setTop (mkF m 37 #[.val (.int p0), .val (.int p1), .val (.int p2), .val (.int p3), .val (.int p4), .val (.int p5), .val (.int v6), .val (.int v12), .val (.int v18), .val (.int v24), .val (.int v31), .unset, .unset, .unset, .unset, .unset, .unset] [(.ref b33), (.ref b33)])) t
    refine st17.trans ?_
    show Steps p.tables e below (T17.setTop (mkF m 40 #[.val (.int p0), .val (.int p1), .val (.int p2), .val (.int p3), .val (.int p4), .val (.int p5), .val (.int v6), .val (.int v12), .val (.int v18), .val (.int v24), .val (.int v31), .unset, .unset, .unset, .unset, .unset, .unset] [(.ref b33)])) t
    refine XS.astore X17.here hx rfl (hb hby at_40) rfl rfl (l' := #[.val (.int p0), .val (.int p1), .val (.int p2), .val (.int p3), .val (.int p4), .val (.int p5), .val (.int v6), .val (.int v12), .val (.int v18), .val (.int v24), .val (.int v31), .val (.ref b33), .unset, .unset, .unset, .unset, .unset]) rfl ?_
    refine XS.iload X17.here hx rfl (hb hby at_42) rfl ?_
    show Steps p.tables e below (T17.setTop (mkF m 44 #[.val (.int p0), .val (.int p1), .val (.int p2), .val (.int p3), .val (.int p4), .val (.int p5), .val (.int v6), .val (.int v12), .val (.int v18), .val (.int v24), .val (.int v31), .val (.ref b33), .unset, .unset, .unset, .unset, .unset] [(.int v6)])) t
    refine XS.ifYes X17.here hx rfl (pc0 := 44) (pc' := 66) rfl (hb hby at_44) rfl ((if0 _ _).trans (flt (by rw [hv6, hn]; decide)).2.2.2) (by decide) (by decide) ?_
    refine XS.iload X17.here hx rfl (hb hby at_66) rfl ?_
    refine XS.iconst X17.here hx rfl (hb hby at_68) ?_
    show Steps p.tables e below (T17.setTop (mkF m 69 #[.val (.int p0), .val (.int p1), .val (.int p2), .val (.int p3), .val (.int p4), .val (.int p5), .val (.int v6), .val (.int v12), .val (.int v18), .val (.int v24), .val (.int v31), .val (.ref b33), .unset, .unset, .unset, .unset, .unset] [(.int (1 : Int32)), (.int v6)])) t
    refine XS.icmpYes X17.here hx rfl (pc0 := 69) (pc' := 91) rfl (hb hby at_69) rfl (flt (by rw [hv6, hn]; decide)).2.2.2 (by decide) (by decide) ?_
    refine XS.iload X17.here hx rfl (hb hby at_91) rfl ?_
    refine XS.iconst X17.here hx rfl (hb hby at_93) ?_
    show Steps p.tables e below (T17.setTop (mkF m 94 #[.val (.int p0), .val (.int p1), .val (.int p2), .val (.int p3), .val (.int p4), .val (.int p5), .val (.int v6), .val (.int v12), .val (.int v18), .val (.int v24), .val (.int v31), .val (.ref b33), .unset, .unset, .unset, .unset, .unset] [(.int (2 : Int32)), (.int v6)])) t
    refine XS.icmpYes X17.here hx rfl (pc0 := 94) (pc' := 116) rfl (hb hby at_94) rfl (flt (by rw [hv6, hn]; decide)).2.2.2 (by decide) (by decide) ?_
    refine XS.iload X17.here hx rfl (hb hby at_116) rfl ?_
    refine XS.iconst X17.here hx rfl (hb hby at_118) ?_
    show Steps p.tables e below (T17.setTop (mkF m 119 #[.val (.int p0), .val (.int p1), .val (.int p2), .val (.int p3), .val (.int p4), .val (.int p5), .val (.int v6), .val (.int v12), .val (.int v18), .val (.int v24), .val (.int v31), .val (.ref b33), .unset, .unset, .unset, .unset, .unset] [(.int (3 : Int32)), (.int v6)])) t
    refine XS.icmpYes X17.here hx rfl (pc0 := 119) (pc' := 141) rfl (hb hby at_119) rfl (flt (by rw [hv6, hn]; decide)).2.2.2 (by decide) (by decide) ?_
    show Steps p.tables e below (T17.setTop (mkF m 141 #[.val (.int p0), .val (.int p1), .val (.int p2), .val (.int p3), .val (.int p4), .val (.int p5), .val (.int v6), .val (.int v12), .val (.int v18), .val (.int v24), .val (.int v31), .val (.ref b33), .unset, .unset, .unset, .unset, .unset] [])) t
    refine st24 _ ?_
    show Steps p.tables e below (T24.setTop (mkF m 144 #[.val (.int p0), .val (.int p1), .val (.int p2), .val (.int p3), .val (.int p4), .val (.int p5), .val (.int v6), .val (.int v12), .val (.int v18), .val (.int v24), .val (.int v31), .val (.ref b33), .unset, .unset, .unset, .unset, .unset] [(.ref b141)])) t
    refine XS.dup X24.here hx rfl (hb hby at_144) rfl rfl ?_
    refine XS.aload X24.here hx rfl (hb hby at_145) rfl rfl ?_
    show Steps p.tables e below (T24.setTop (mkF m 147 #[.val (.int p0), .val (.int p1), .val (.int p2), .val (.int p3), .val (.int p4), .val (.int p5), .val (.int v6), .val (.int v12), .val (.int v18), .val (.int v24), .val (.int v31), .val (.ref b33), .unset, .unset, .unset, .unset, .unset] [(.ref b33), (.ref b141), (.ref b141)])) t
    refine st34.trans ?_
    show Steps p.tables e below (T34.setTop (mkF m 150 #[.val (.int p0), .val (.int p1), .val (.int p2), .val (.int p3), .val (.int p4), .val (.int p5), .val (.int v6), .val (.int v12), .val (.int v18), .val (.int v24), .val (.int v31), .val (.ref b33), .unset, .unset, .unset, .unset, .unset] [(.ref b141)])) t
    refine XS.astore X34.here hx rfl (hb hby at_150) rfl rfl (l' := #[.val (.int p0), .val (.int p1), .val (.int p2), .val (.int p3), .val (.int p4), .val (.int p5), .val (.int v6), .val (.int v12), .val (.int v18), .val (.int v24), .val (.int v31), .val (.ref b33), .val (.ref b141), .unset, .unset, .unset, .unset]) rfl ?_
    refine XS.iload X34.here hx rfl (hb hby at_152) rfl ?_
    show Steps p.tables e below (T34.setTop (mkF m 154 #[.val (.int p0), .val (.int p1), .val (.int p2), .val (.int p3), .val (.int p4), .val (.int p5), .val (.int v6), .val (.int v12), .val (.int v18), .val (.int v24), .val (.int v31), .val (.ref b33), .val (.ref b141), .unset, .unset, .unset, .unset] [(.int v12)])) t
    refine XS.istore X34.here hx rfl (hb hby at_154) rfl (l' := #[.val (.int p0), .val (.int p1), .val (.int p2), .val (.int p3), .val (.int p4), .val (.int p5), .val (.int v6), .val (.int v12), .val (.int v18), .val (.int v24), .val (.int v31), .val (.ref b33), .val (.ref b141), .val (.int v12), .unset, .unset, .unset]) rfl ?_
    refine XS.iload X34.here hx rfl (hb hby at_156) rfl ?_
    refine XS.iload X34.here hx rfl (hb hby at_158) rfl ?_
    show Steps p.tables e below (T34.setTop (mkF m 160 #[.val (.int p0), .val (.int p1), .val (.int p2), .val (.int p3), .val (.int p4), .val (.int p5), .val (.int v6), .val (.int v12), .val (.int v18), .val (.int v24), .val (.int v31), .val (.ref b33), .val (.ref b141), .val (.int v12), .unset, .unset, .unset] [(.int v18), (.int v12)])) t
    refine XS.iadd X34.here hx rfl (hb hby at_160) rfl ?_
    show Steps p.tables e below (T34.setTop (mkF m 161 #[.val (.int p0), .val (.int p1), .val (.int p2), .val (.int p3), .val (.int p4), .val (.int p5), .val (.int v6), .val (.int v12), .val (.int v18), .val (.int v24), .val (.int v31), .val (.ref b33), .val (.ref b141), .val (.int v12), .unset, .unset, .unset] [(.int (v12 + v18))])) t
    refine XS.istore X34.here hx rfl (hb hby at_161) rfl (l' := #[.val (.int p0), .val (.int p1), .val (.int p2), .val (.int p3), .val (.int p4), .val (.int p5), .val (.int v6), .val (.int v12), .val (.int v18), .val (.int v24), .val (.int v31), .val (.ref b33), .val (.ref b141), .val (.int v12), .val (.int (v12 + v18)), .unset, .unset]) rfl ?_
    exact kt
  obtain ⟨v161, hv161, K45⟩ : ∃ v161 : Int32, v161 = (v12 + v18) ∧ ∀ t, Steps p.tables e below (T34.setTop (mkF m 163 #[.val (.int p0), .val (.int p1), .val (.int p2), .val (.int p3), .val (.int p4), .val (.int p5), .val (.int v6), .val (.int v12), .val (.int v18), .val (.int v24), .val (.int v31), .val (.ref b33), .val (.ref b141), .val (.int v12), .val (.int v161), .unset, .unset] [])) t → P0 t := ⟨_, rfl, K44⟩
  have K46 : ∀ t, Steps p.tables e below (T34.setTop (mkF m 170 #[.val (.int p0), .val (.int p1), .val (.int p2), .val (.int p3), .val (.int p4), .val (.int p5), .val (.int v6), .val (.int v12), .val (.int v18), .val (.int v24), .val (.int v31), .val (.ref b33), .val (.ref b141), .val (.int v12), .val (.int v161), .val (.int (v161 + v24)), .unset] [])) t → P0 t := by
    intro t kt
    refine K45 t ?_
    refine XS.iload X34.here hx rfl (hb hby at_163) rfl ?_
    refine XS.iload X34.here hx rfl (hb hby at_165) rfl ?_
    show Steps p.tables e below (T34.setTop (mkF m 167 #[.val (.int p0), .val (.int p1), .val (.int p2), .val (.int p3), .val (.int p4), .val (.int p5), .val (.int v6), .val (.int v12), .val (.int v18), .val (.int v24), .val (.int v31), .val (.ref b33), .val (.ref b141), .val (.int v12), .val (.int v161), .unset, .unset] [(.int v24), (.int v161)])) t
    refine XS.iadd X34.here hx rfl (hb hby at_167) rfl ?_
    show Steps p.tables e below (T34.setTop (mkF m 168 #[.val (.int p0), .val (.int p1), .val (.int p2), .val (.int p3), .val (.int p4), .val (.int p5), .val (.int v6), .val (.int v12), .val (.int v18), .val (.int v24), .val (.int v31), .val (.ref b33), .val (.ref b141), .val (.int v12), .val (.int v161), .unset, .unset] [(.int (v161 + v24))])) t
    refine XS.istore X34.here hx rfl (hb hby at_168) rfl (l' := #[.val (.int p0), .val (.int p1), .val (.int p2), .val (.int p3), .val (.int p4), .val (.int p5), .val (.int v6), .val (.int v12), .val (.int v18), .val (.int v24), .val (.int v31), .val (.ref b33), .val (.ref b141), .val (.int v12), .val (.int v161), .val (.int (v161 + v24)), .unset]) rfl ?_
    exact kt
  obtain ⟨v168, hv168, K47⟩ : ∃ v168 : Int32, v168 = (v161 + v24) ∧ ∀ t, Steps p.tables e below (T34.setTop (mkF m 170 #[.val (.int p0), .val (.int p1), .val (.int p2), .val (.int p3), .val (.int p4), .val (.int p5), .val (.int v6), .val (.int v12), .val (.int v18), .val (.int v24), .val (.int v31), .val (.ref b33), .val (.ref b141), .val (.int v12), .val (.int v161), .val (.int v168), .unset] [])) t → P0 t := ⟨_, rfl, K46⟩
  obtain ⟨cq48, kq48, q48a, q48b, q48c⟩ := isOf hZ e34 F35
  obtain ⟨_, _, ⟨T48, L48, k48, n48⟩, -, X48, ⟨Lc48, hQ48, l48, y48, z48⟩, st48⟩ := X34.virtualBack hx (y := (⟨"com/example/termwright/termwright/DocumentNumbers", "segmentOf", "(I)I"⟩ : MethodName)) (z := (⟨"com/example/termwright/termwright/DocumentNumbers", "segmentOf", "(I)I"⟩ : MethodName)) hown (mvT hZ (hw _ (gw 52 rfl))) (mvT hZ (hw _ (gw 53 rfl))) (notFace_of_selects (args := #[]) (mvT hZ (hw _ (gw 55 rfl)))) (mvT hZ (hw _ (gw 55 rfl))) (mvT hZ (hw _ (gw 54 rfl))) (by decide) (backOf (W := 0) (rm_se0 l Z a0 hw [] b141 p5 bb fB0 h34 n0 Z34 F36 F37) hZ (hw _ (gw 56 rfl)) (hw _ (gw 29 rfl)) (by decide) (by decide)) q48a q48c (g := (mkF m 225 #[.val (.int p0), .val (.int p1), .val (.int p2), .val (.int p3), .val (.int p4), .val (.int p5), .val (.int v6), .val (.int v12), .val (.int v18), .val (.int v24), .val (.int v31), .val (.ref b33), .val (.ref b141), .val (.int v12), .val (.int v161), .val (.int v168), .val (.int (0 : Int32))] [(.int p5), (.ref b141)])) rfl (by rw [hml]; rfl) (Steps.refl _) (argsL := [(.int p5)]) (rest := []) (lenOf law0_pd2 rfl) rfl (by show 2 * 0 + _ ≤ _; exact Nat.le_of_eq rfl) (hb hby at_225) (fun _ _ => ⟨rfl, e34, (by decide : 3 + 0 ≤ _), (by decide : 6 + 0 ≤ _)⟩)
  dsimp only [Pt.U, Pt.locs, Pt.cells, Pt.slots] at X48 l48 y48 z48 st48 hQ48
  rw [l48, y48, z48] at X48
  obtain ⟨rfl, N48q, e48⟩ := hQ48
  have N48 := Fr.app N34 N48q
  have K49 : ∀ t, Steps p.tables e below (T48.setTop (mkF m 230 #[.val (.int p0), .val (.int p1), .val (.int p2), .val (.int p3), .val (.int p4), .val (.int p5), .val (.int v6), .val (.int v12), .val (.int v18), .val (.int v24), .val (.int v31), .val (.ref b33), .val (.ref b141), .val (.int v12), .val (.int v161), .val (.int v168), .val (.int (0 : Int32))] [(.int (0 : Int32)), (.int (fSeg0 p5 fB0))])) t → P0 t := by
    intro t kt
    refine K47 t ?_
    refine XS.iconst X34.here hx rfl (hb hby at_170) ?_
    show Steps p.tables e below (T34.setTop (mkF m 171 #[.val (.int p0), .val (.int p1), .val (.int p2), .val (.int p3), .val (.int p4), .val (.int p5), .val (.int v6), .val (.int v12), .val (.int v18), .val (.int v24), .val (.int v31), .val (.ref b33), .val (.ref b141), .val (.int v12), .val (.int v161), .val (.int v168), .unset] [(.int (0 : Int32))])) t
    refine XS.istore X34.here hx rfl (hb hby at_171) rfl (l' := #[.val (.int p0), .val (.int p1), .val (.int p2), .val (.int p3), .val (.int p4), .val (.int p5), .val (.int v6), .val (.int v12), .val (.int v18), .val (.int v24), .val (.int v31), .val (.ref b33), .val (.ref b141), .val (.int v12), .val (.int v161), .val (.int v168), .val (.int (0 : Int32))]) rfl ?_
    refine XS.iload X34.here hx rfl (hb hby at_173) rfl ?_
    refine XS.iconst X34.here hx rfl (hb hby at_175) ?_
    show Steps p.tables e below (T34.setTop (mkF m 176 #[.val (.int p0), .val (.int p1), .val (.int p2), .val (.int p3), .val (.int p4), .val (.int p5), .val (.int v6), .val (.int v12), .val (.int v18), .val (.int v24), .val (.int v31), .val (.ref b33), .val (.ref b141), .val (.int v12), .val (.int v161), .val (.int v168), .val (.int (0 : Int32))] [(.int (1 : Int32)), (.int v6)])) t
    refine XS.icmpYes X34.here hx rfl (pc0 := 176) (pc' := 189) rfl (hb hby at_176) rfl (flt (by rw [hv6, hn]; decide)).2.2.2 (by decide) (by decide) ?_
    refine XS.iload X34.here hx rfl (hb hby at_189) rfl ?_
    refine XS.iconst X34.here hx rfl (hb hby at_191) ?_
    show Steps p.tables e below (T34.setTop (mkF m 192 #[.val (.int p0), .val (.int p1), .val (.int p2), .val (.int p3), .val (.int p4), .val (.int p5), .val (.int v6), .val (.int v12), .val (.int v18), .val (.int v24), .val (.int v31), .val (.ref b33), .val (.ref b141), .val (.int v12), .val (.int v161), .val (.int v168), .val (.int (0 : Int32))] [(.int (2 : Int32)), (.int v6)])) t
    refine XS.icmpYes X34.here hx rfl (pc0 := 192) (pc' := 205) rfl (hb hby at_192) rfl (flt (by rw [hv6, hn]; decide)).2.2.2 (by decide) (by decide) ?_
    refine XS.iload X34.here hx rfl (hb hby at_205) rfl ?_
    refine XS.iconst X34.here hx rfl (hb hby at_207) ?_
    show Steps p.tables e below (T34.setTop (mkF m 208 #[.val (.int p0), .val (.int p1), .val (.int p2), .val (.int p3), .val (.int p4), .val (.int p5), .val (.int v6), .val (.int v12), .val (.int v18), .val (.int v24), .val (.int v31), .val (.ref b33), .val (.ref b141), .val (.int v12), .val (.int v161), .val (.int v168), .val (.int (0 : Int32))] [(.int (3 : Int32)), (.int v6)])) t
    refine XS.icmpYes X34.here hx rfl (pc0 := 208) (pc' := 221) rfl (hb hby at_208) rfl (flt (by rw [hv6, hn]; decide)).2.2.2 (by decide) (by decide) ?_
    refine XS.aload X34.here hx rfl (hb hby at_221) rfl rfl ?_
    refine XS.iload X34.here hx rfl (hb hby at_223) rfl ?_
    show Steps p.tables e below (T34.setTop (mkF m 225 #[.val (.int p0), .val (.int p1), .val (.int p2), .val (.int p3), .val (.int p4), .val (.int p5), .val (.int v6), .val (.int v12), .val (.int v18), .val (.int v24), .val (.int v31), .val (.ref b33), .val (.ref b141), .val (.int v12), .val (.int v161), .val (.int v168), .val (.int (0 : Int32))] [(.int p5), (.ref b141)])) t
    refine st48.trans ?_
    refine XS.iload X48.here hx rfl (hb hby at_228) rfl ?_
    exact kt
  obtain ⟨j238_s0, hj238_s0, K52⟩ : ∃ (j238_s0 : Int32), j238_s0 = (if (fSeg0 p5 fB0) = (0 : Int32) then (1 : Int32) else (0 : Int32)) ∧ ∀ t, Steps p.tables e below (T48.setTop (mkF m 238 #[.val (.int p0), .val (.int p1), .val (.int p2), .val (.int p3), .val (.int p4), .val (.int p5), .val (.int v6), .val (.int v12), .val (.int v18), .val (.int v24), .val (.int v31), .val (.ref b33), .val (.ref b141), .val (.int v12), .val (.int v161), .val (.int v168), .val (.int (0 : Int32))] [(.int j238_s0)])) t → P0 t := by
    by_cases hc230 : (fSeg0 p5 fB0) = (0 : Int32)
    · have K50 : ∀ t, Steps p.tables e below (T48.setTop (mkF m 238 #[.val (.int p0), .val (.int p1), .val (.int p2), .val (.int p3), .val (.int p4), .val (.int p5), .val (.int v6), .val (.int v12), .val (.int v18), .val (.int v24), .val (.int v31), .val (.ref b33), .val (.ref b141), .val (.int v12), .val (.int v161), .val (.int v168), .val (.int (0 : Int32))] [(.int (1 : Int32))])) t → P0 t := by
        intro t kt
        refine K49 t ?_
        refine XS.icmpNo X48.here hx rfl (hb hby at_230) rfl (teq hc230).2 ?_
        refine XS.iconst X48.here hx rfl (hb hby at_233) ?_
        show Steps p.tables e below (T48.setTop (mkF m 234 #[.val (.int p0), .val (.int p1), .val (.int p2), .val (.int p3), .val (.int p4), .val (.int p5), .val (.int v6), .val (.int v12), .val (.int v18), .val (.int v24), .val (.int v31), .val (.ref b33), .val (.ref b141), .val (.int v12), .val (.int v161), .val (.int v168), .val (.int (0 : Int32))] [(.int (1 : Int32))])) t
        refine XS.goto X48.here hx rfl (pc0 := 234) (pc' := 238) rfl (hb hby at_234) (by decide) (by decide) ?_
        exact kt
      exact ⟨_, (if_pos hc230).symm, K50⟩
    · have K51 : ∀ t, Steps p.tables e below (T48.setTop (mkF m 238 #[.val (.int p0), .val (.int p1), .val (.int p2), .val (.int p3), .val (.int p4), .val (.int p5), .val (.int v6), .val (.int v12), .val (.int v18), .val (.int v24), .val (.int v31), .val (.ref b33), .val (.ref b141), .val (.int v12), .val (.int v161), .val (.int v168), .val (.int (0 : Int32))] [(.int (0 : Int32))])) t → P0 t := by
        intro t kt
        refine K49 t ?_
        refine XS.icmpYes X48.here hx rfl (pc0 := 230) (pc' := 237) rfl (hb hby at_230) rfl (feq hc230).2 (by decide) (by decide) ?_
        refine XS.iconst X48.here hx rfl (hb hby at_237) ?_
        exact kt
      exact ⟨_, (if_neg hc230).symm, K51⟩
  have hres : j238_s0 = 1 := own_plain0 p0 p1 p2 p3 p4 p5 dce v6 v12 v18 v24 v31 v161 v168 j238_s0 hn hv6 hv12 hv18 hv24 hv31 hv161 hv168 hj238_s0
  obtain ⟨fs, hr, hrun, hended, hW⟩ := (show Stand p l e room_1 (s.setVm s.vm) m #[(.int p0), (.int p1), (.int p2), (.int p3), (.int p4), (.int p5)] below meth c T48 _ _ _ from X48).leaveW ((State.WarmedH.refl s).since n0) (by rw [e48]; exact Z34) (v := some (.int (1 : Int32))) (fun h => by rw [Bd.returns] at h; cases h)
  refine ⟨_, _, ?_, hrun, hended, _, _, rfl, ?_, hW.1, hW.2.1, hW.2.2.1, hW.2.2.2.mono (by decide) (by decide)⟩
  · rw [hres] at K52
    have q := K52 _ (retN (show Stand p l e room_1 (s.setVm s.vm) m #[(.int p0), (.int p1), (.int p2), (.int p3), (.int p4), (.int p5)] below meth c T48 _ _ _ from X48) hx (t := .boolean) Bd.returns (by simp) (hb hby at_238) hr)
    rw [hP0] at q; exact q
  · exact ⟨rfl, N48⟩
theorem law1_pn : plainName "com/example/termwright/termwright/DocumentNumbersSegmentOfPinLaw" = true := by first | (simp [plainName, overriddenIn]; done) | decide +kernel
theorem law1_pd0 : parseMethodDescriptor "()V" = some ⟨[], none⟩ := by decide +kernel
theorem law1_pd1 : parseMethodDescriptor "(Ljava/lang/String;IJI)V" = some ⟨[(.object "java/lang/String"), .int, .long, .int], none⟩ := by decide +kernel
theorem law1_pd2 : parseMethodDescriptor "(Ljava/lang/Object;)Z" = some ⟨[(.object "java/lang/Object")], some .boolean⟩ := by decide +kernel
theorem law1_pd3 : parseMethodDescriptor "(Ljava/util/List;)V" = some ⟨[(.object "java/util/List")], none⟩ := by decide +kernel
theorem law1_pd4 : parseMethodDescriptor "(I)I" = some ⟨[.int], some .int⟩ := by decide +kernel
theorem law1_ef (m : MethodId) (x0 : Int32) (x1 : Int32) (x2 : Int32) (x3 : Int32) (x4 : Int32) (x5 : Int32) : entryFrame m #[(.int x0), (.int x1), (.int x2), (.int x3), (.int x4), (.int x5)] maxLocals = mkF m 0 #[.val (.int x0), .val (.int x1), .val (.int x2), .val (.int x3), .val (.int x4), .val (.int x5), .unset, .unset, .unset, .unset, .unset, .unset, .unset, .unset, .unset, .unset, .unset] [] := by first | (simp [entryFrame, mkF, argsToLocals, Value.category, maxLocals]; done) | rfl
set_option maxRecDepth 65536 in
set_option maxHeartbeats 40000000 in
theorem rm_law1 (l : Launch) (Z : State) (a0 : Array Value) (hw : ∀ d ∈ tables_1, d.before a0 Z = true) (ws : List Jvm.Cond) (p0 : Int32) (p1 : Int32) (p2 : Int32) (p3 : Int32) (p4 : Int32) (p5 : Int32) (dce : Addr) (h0 : Heap) (n0 : Nat) (Z0 : n0 ≤ h0.size) (H0 : LA Z h0 dce 0) (H1 : Sta Z h0 "java/util/ArrayList" "DEFAULTCAPACITY_EMPTY_ELEMENTDATA" "[Ljava/lang/Object;" (.ref dce)) (hn : ((p0 &&& (7 : Int32)) % (5 : Int32)) = (1 : Int32)) :
    MetFree l x (head1 (Jvm.Cond.code x code maxLocals ret :: ws) room_1) (fun a U => a = #[(.int p0), (.int p1), (.int p2), (.int p3), (.int p4), (.int p5)] ∧ Z.Warmed39 U.vm ∧ U.heap = h0) (fun _ _ _ _ _ => True) (fun _ U o U' => ∃ v L, o = .returned v ∧ QL n0 v U'.heap L ∧ ReturnedEndW U o U' L room_1.cells room_1.slots) := by
  refine MetFree.of_bodySF (plainFor_of_name law1_pn) hisR ?_
  intro p e s m args below meth c s₁ Bd hml0 hP hK
  obtain ⟨rfl, hZ, hh⟩ := hP
  have hx := Bd.exec
  have hby := Bd.bytes
  have hml : c.maxLocals = 17 := hml0
  have hown : s.vm.findClass "com/example/termwright/termwright/DocumentNumbersSegmentOfPinLaw" = some m.cls := findClass_of_methodNamed Bd.named
  have hnm := (name_of_methodNamed Bd.named Bd.method).1
  have X0 : Stand p l e room_1 s m #[(.int p0), (.int p1), (.int p2), (.int p3), (.int p4), (.int p5)] below meth c s₁ [] 0 0 := Stand.of_body Bd
  have e0 : s₁.heap = h0 := by rw [← hh, Bd.state]; rfl
  have N0 := Fr.nil n0
  have hstr : ∀ d ∈ Bundle.stringAtoms, d.before a0 Z = true := by
    intro d hd
    simp only [Bundle.stringAtoms, List.mem_cons, List.not_mem_nil, or_false] at hd
    rcases hd with rfl | rfl | rfl | rfl | rfl | rfl | rfl
    · exact (hw _ (gw 61 rfl))
    · exact (hw _ (gw 62 rfl))
    · exact (hw _ (gw 63 rfl))
    · exact (hw _ (gw 64 rfl))
    · exact (hw _ (gw 65 rfl))
    · exact (hw _ (gw 66 rfl))
    · exact (hw _ (gw 67 rfl))
  obtain ⟨P0, hP0⟩ : ∃ P0 : State → Prop, P0 = fun t => Steps p.tables e below (s₁.setTop (entryFrame m #[(.int p0), (.int p1), (.int p2), (.int p3), (.int p4), (.int p5)] maxLocals)) t := ⟨_, rfl⟩
  have K0 : ∀ t, Steps p.tables e below (s₁.setTop (mkF m 0 #[.val (.int p0), .val (.int p1), .val (.int p2), .val (.int p3), .val (.int p4), .val (.int p5), .unset, .unset, .unset, .unset, .unset, .unset, .unset, .unset, .unset, .unset, .unset] [])) t → P0 t := by
    intro t k; rw [hP0]; exact castTop (law1_ef m p0 p1 p2 p3 p4 p5) k
  have K1 : ∀ t, Steps p.tables e below (s₁.setTop (mkF m 8 #[.val (.int p0), .val (.int p1), .val (.int p2), .val (.int p3), .val (.int p4), .val (.int p5), .val (.int ((p0 &&& (7 : Int32)) % (5 : Int32))), .unset, .unset, .unset, .unset, .unset, .unset, .unset, .unset, .unset, .unset] [])) t → P0 t := by
    intro t kt
    refine K0 t ?_
    refine XS.iloadN X0.here hx rfl (hb hby at_0) rfl ?_
    refine XS.bipush X0.here hx rfl (hb hby at_1) ?_
    show Steps p.tables e below (s₁.setTop (mkF m 3 #[.val (.int p0), .val (.int p1), .val (.int p2), .val (.int p3), .val (.int p4), .val (.int p5), .unset, .unset, .unset, .unset, .unset, .unset, .unset, .unset, .unset, .unset, .unset] [(.int (7 : Int32)), (.int p0)])) t
    refine XS.iand X0.here hx rfl (hb hby at_3) rfl ?_
    refine XS.iconst X0.here hx rfl (hb hby at_4) ?_
    show Steps p.tables e below (s₁.setTop (mkF m 5 #[.val (.int p0), .val (.int p1), .val (.int p2), .val (.int p3), .val (.int p4), .val (.int p5), .unset, .unset, .unset, .unset, .unset, .unset, .unset, .unset, .unset, .unset, .unset] [(.int (5 : Int32)), (.int (p0 &&& (7 : Int32)))])) t
    refine iremM X0 hx rfl (hb hby at_5) rfl (by decide) ?_
    show Steps p.tables e below (s₁.setTop (mkF m 6 #[.val (.int p0), .val (.int p1), .val (.int p2), .val (.int p3), .val (.int p4), .val (.int p5), .unset, .unset, .unset, .unset, .unset, .unset, .unset, .unset, .unset, .unset, .unset] [(.int ((p0 &&& (7 : Int32)) % (5 : Int32)))])) t
    refine XS.istore X0.here hx rfl (hb hby at_6) rfl (l' := #[.val (.int p0), .val (.int p1), .val (.int p2), .val (.int p3), .val (.int p4), .val (.int p5), .val (.int ((p0 &&& (7 : Int32)) % (5 : Int32))), .unset, .unset, .unset, .unset, .unset, .unset, .unset, .unset, .unset, .unset]) rfl ?_
    exact kt
  obtain ⟨v6, hv6, K2⟩ : ∃ v6 : Int32, v6 = ((p0 &&& (7 : Int32)) % (5 : Int32)) ∧ ∀ t, Steps p.tables e below (s₁.setTop (mkF m 8 #[.val (.int p0), .val (.int p1), .val (.int p2), .val (.int p3), .val (.int p4), .val (.int p5), .val (.int v6), .unset, .unset, .unset, .unset, .unset, .unset, .unset, .unset, .unset, .unset] [])) t → P0 t := ⟨_, rfl, K1⟩
  have K3 : ∀ t, Steps p.tables e below (s₁.setTop (mkF m 14 #[.val (.int p0), .val (.int p1), .val (.int p2), .val (.int p3), .val (.int p4), .val (.int p5), .val (.int v6), .val (.int (p1 &&& (536870911 : Int32))), .unset, .unset, .unset, .unset, .unset, .unset, .unset, .unset, .unset] [])) t → P0 t := by
    intro t kt
    refine K2 t ?_
    refine XS.iloadN X0.here hx rfl (hb hby at_8) rfl ?_
    show Steps p.tables e below (s₁.setTop (mkF m 9 #[.val (.int p0), .val (.int p1), .val (.int p2), .val (.int p3), .val (.int p4), .val (.int p5), .val (.int v6), .unset, .unset, .unset, .unset, .unset, .unset, .unset, .unset, .unset, .unset] [(.int p1)])) t
    refine X0.ldcInt hx hown (mvT hZ (hw _ (gw 0 rfl))) (g := (mkF m 9 #[.val (.int p0), .val (.int p1), .val (.int p2), .val (.int p3), .val (.int p4), .val (.int p5), .val (.int v6), .unset, .unset, .unset, .unset, .unset, .unset, .unset, .unset, .unset, .unset] [(.int p1)])) rfl (hb hby at_9) _ ?_
    show Steps p.tables e below (s₁.setTop (mkF m 11 #[.val (.int p0), .val (.int p1), .val (.int p2), .val (.int p3), .val (.int p4), .val (.int p5), .val (.int v6), .unset, .unset, .unset, .unset, .unset, .unset, .unset, .unset, .unset, .unset] [(.int (536870911 : Int32)), (.int p1)])) t
    refine XS.iand X0.here hx rfl (hb hby at_11) rfl ?_
    show Steps p.tables e below (s₁.setTop (mkF m 12 #[.val (.int p0), .val (.int p1), .val (.int p2), .val (.int p3), .val (.int p4), .val (.int p5), .val (.int v6), .unset, .unset, .unset, .unset, .unset, .unset, .unset, .unset, .unset, .unset] [(.int (p1 &&& (536870911 : Int32)))])) t
    refine XS.istore X0.here hx rfl (hb hby at_12) rfl (l' := #[.val (.int p0), .val (.int p1), .val (.int p2), .val (.int p3), .val (.int p4), .val (.int p5), .val (.int v6), .val (.int (p1 &&& (536870911 : Int32))), .unset, .unset, .unset, .unset, .unset, .unset, .unset, .unset, .unset]) rfl ?_
    exact kt
  obtain ⟨v12, hv12, K4⟩ : ∃ v12 : Int32, v12 = (p1 &&& (536870911 : Int32)) ∧ ∀ t, Steps p.tables e below (s₁.setTop (mkF m 14 #[.val (.int p0), .val (.int p1), .val (.int p2), .val (.int p3), .val (.int p4), .val (.int p5), .val (.int v6), .val (.int v12), .unset, .unset, .unset, .unset, .unset, .unset, .unset, .unset, .unset] [])) t → P0 t := ⟨_, rfl, K3⟩
  have K5 : ∀ t, Steps p.tables e below (s₁.setTop (mkF m 20 #[.val (.int p0), .val (.int p1), .val (.int p2), .val (.int p3), .val (.int p4), .val (.int p5), .val (.int v6), .val (.int v12), .val (.int (p2 &&& (536870911 : Int32))), .unset, .unset, .unset, .unset, .unset, .unset, .unset, .unset] [])) t → P0 t := by
    intro t kt
    refine K4 t ?_
    refine XS.iloadN X0.here hx rfl (hb hby at_14) rfl ?_
    show Steps p.tables e below (s₁.setTop (mkF m 15 #[.val (.int p0), .val (.int p1), .val (.int p2), .val (.int p3), .val (.int p4), .val (.int p5), .val (.int v6), .val (.int v12), .unset, .unset, .unset, .unset, .unset, .unset, .unset, .unset, .unset] [(.int p2)])) t
    refine X0.ldcInt hx hown (mvT hZ (hw _ (gw 0 rfl))) (g := (mkF m 15 #[.val (.int p0), .val (.int p1), .val (.int p2), .val (.int p3), .val (.int p4), .val (.int p5), .val (.int v6), .val (.int v12), .unset, .unset, .unset, .unset, .unset, .unset, .unset, .unset, .unset] [(.int p2)])) rfl (hb hby at_15) _ ?_
    show Steps p.tables e below (s₁.setTop (mkF m 17 #[.val (.int p0), .val (.int p1), .val (.int p2), .val (.int p3), .val (.int p4), .val (.int p5), .val (.int v6), .val (.int v12), .unset, .unset, .unset, .unset, .unset, .unset, .unset, .unset, .unset] [(.int (536870911 : Int32)), (.int p2)])) t
    refine XS.iand X0.here hx rfl (hb hby at_17) rfl ?_
    show Steps p.tables e below (s₁.setTop (mkF m 18 #[.val (.int p0), .val (.int p1), .val (.int p2), .val (.int p3), .val (.int p4), .val (.int p5), .val (.int v6), .val (.int v12), .unset, .unset, .unset, .unset, .unset, .unset, .unset, .unset, .unset] [(.int (p2 &&& (536870911 : Int32)))])) t
    refine XS.istore X0.here hx rfl (hb hby at_18) rfl (l' := #[.val (.int p0), .val (.int p1), .val (.int p2), .val (.int p3), .val (.int p4), .val (.int p5), .val (.int v6), .val (.int v12), .val (.int (p2 &&& (536870911 : Int32))), .unset, .unset, .unset, .unset, .unset, .unset, .unset, .unset]) rfl ?_
    exact kt
  obtain ⟨v18, hv18, K6⟩ : ∃ v18 : Int32, v18 = (p2 &&& (536870911 : Int32)) ∧ ∀ t, Steps p.tables e below (s₁.setTop (mkF m 20 #[.val (.int p0), .val (.int p1), .val (.int p2), .val (.int p3), .val (.int p4), .val (.int p5), .val (.int v6), .val (.int v12), .val (.int v18), .unset, .unset, .unset, .unset, .unset, .unset, .unset, .unset] [])) t → P0 t := ⟨_, rfl, K5⟩
  have K7 : ∀ t, Steps p.tables e below (s₁.setTop (mkF m 26 #[.val (.int p0), .val (.int p1), .val (.int p2), .val (.int p3), .val (.int p4), .val (.int p5), .val (.int v6), .val (.int v12), .val (.int v18), .val (.int (p3 &&& (536870911 : Int32))), .unset, .unset, .unset, .unset, .unset, .unset, .unset] [])) t → P0 t := by
    intro t kt
    refine K6 t ?_
    refine XS.iloadN X0.here hx rfl (hb hby at_20) rfl ?_
    show Steps p.tables e below (s₁.setTop (mkF m 21 #[.val (.int p0), .val (.int p1), .val (.int p2), .val (.int p3), .val (.int p4), .val (.int p5), .val (.int v6), .val (.int v12), .val (.int v18), .unset, .unset, .unset, .unset, .unset, .unset, .unset, .unset] [(.int p3)])) t
    refine X0.ldcInt hx hown (mvT hZ (hw _ (gw 0 rfl))) (g := (mkF m 21 #[.val (.int p0), .val (.int p1), .val (.int p2), .val (.int p3), .val (.int p4), .val (.int p5), .val (.int v6), .val (.int v12), .val (.int v18), .unset, .unset, .unset, .unset, .unset, .unset, .unset, .unset] [(.int p3)])) rfl (hb hby at_21) _ ?_
    show Steps p.tables e below (s₁.setTop (mkF m 23 #[.val (.int p0), .val (.int p1), .val (.int p2), .val (.int p3), .val (.int p4), .val (.int p5), .val (.int v6), .val (.int v12), .val (.int v18), .unset, .unset, .unset, .unset, .unset, .unset, .unset, .unset] [(.int (536870911 : Int32)), (.int p3)])) t
    refine XS.iand X0.here hx rfl (hb hby at_23) rfl ?_
    show Steps p.tables e below (s₁.setTop (mkF m 24 #[.val (.int p0), .val (.int p1), .val (.int p2), .val (.int p3), .val (.int p4), .val (.int p5), .val (.int v6), .val (.int v12), .val (.int v18), .unset, .unset, .unset, .unset, .unset, .unset, .unset, .unset] [(.int (p3 &&& (536870911 : Int32)))])) t
    refine XS.istore X0.here hx rfl (hb hby at_24) rfl (l' := #[.val (.int p0), .val (.int p1), .val (.int p2), .val (.int p3), .val (.int p4), .val (.int p5), .val (.int v6), .val (.int v12), .val (.int v18), .val (.int (p3 &&& (536870911 : Int32))), .unset, .unset, .unset, .unset, .unset, .unset, .unset]) rfl ?_
    exact kt
  obtain ⟨v24, hv24, K8⟩ : ∃ v24 : Int32, v24 = (p3 &&& (536870911 : Int32)) ∧ ∀ t, Steps p.tables e below (s₁.setTop (mkF m 26 #[.val (.int p0), .val (.int p1), .val (.int p2), .val (.int p3), .val (.int p4), .val (.int p5), .val (.int v6), .val (.int v12), .val (.int v18), .val (.int v24), .unset, .unset, .unset, .unset, .unset, .unset, .unset] [])) t → P0 t := ⟨_, rfl, K7⟩
  have K9 : ∀ t, Steps p.tables e below (s₁.setTop (mkF m 33 #[.val (.int p0), .val (.int p1), .val (.int p2), .val (.int p3), .val (.int p4), .val (.int p5), .val (.int v6), .val (.int v12), .val (.int v18), .val (.int v24), .val (.int (p4 &&& (536870911 : Int32))), .unset, .unset, .unset, .unset, .unset, .unset] [])) t → P0 t := by
    intro t kt
    refine K8 t ?_
    refine XS.iload X0.here hx rfl (hb hby at_26) rfl ?_
    show Steps p.tables e below (s₁.setTop (mkF m 28 #[.val (.int p0), .val (.int p1), .val (.int p2), .val (.int p3), .val (.int p4), .val (.int p5), .val (.int v6), .val (.int v12), .val (.int v18), .val (.int v24), .unset, .unset, .unset, .unset, .unset, .unset, .unset] [(.int p4)])) t
    refine X0.ldcInt hx hown (mvT hZ (hw _ (gw 0 rfl))) (g := (mkF m 28 #[.val (.int p0), .val (.int p1), .val (.int p2), .val (.int p3), .val (.int p4), .val (.int p5), .val (.int v6), .val (.int v12), .val (.int v18), .val (.int v24), .unset, .unset, .unset, .unset, .unset, .unset, .unset] [(.int p4)])) rfl (hb hby at_28) _ ?_
    show Steps p.tables e below (s₁.setTop (mkF m 30 #[.val (.int p0), .val (.int p1), .val (.int p2), .val (.int p3), .val (.int p4), .val (.int p5), .val (.int v6), .val (.int v12), .val (.int v18), .val (.int v24), .unset, .unset, .unset, .unset, .unset, .unset, .unset] [(.int (536870911 : Int32)), (.int p4)])) t
    refine XS.iand X0.here hx rfl (hb hby at_30) rfl ?_
    show Steps p.tables e below (s₁.setTop (mkF m 31 #[.val (.int p0), .val (.int p1), .val (.int p2), .val (.int p3), .val (.int p4), .val (.int p5), .val (.int v6), .val (.int v12), .val (.int v18), .val (.int v24), .unset, .unset, .unset, .unset, .unset, .unset, .unset] [(.int (p4 &&& (536870911 : Int32)))])) t
    refine XS.istore X0.here hx rfl (hb hby at_31) rfl (l' := #[.val (.int p0), .val (.int p1), .val (.int p2), .val (.int p3), .val (.int p4), .val (.int p5), .val (.int v6), .val (.int v12), .val (.int v18), .val (.int v24), .val (.int (p4 &&& (536870911 : Int32))), .unset, .unset, .unset, .unset, .unset, .unset]) rfl ?_
    exact kt
  obtain ⟨v31, hv31, K10⟩ : ∃ v31 : Int32, v31 = (p4 &&& (536870911 : Int32)) ∧ ∀ t, Steps p.tables e below (s₁.setTop (mkF m 33 #[.val (.int p0), .val (.int p1), .val (.int p2), .val (.int p3), .val (.int p4), .val (.int p5), .val (.int v6), .val (.int v12), .val (.int v18), .val (.int v24), .val (.int v31), .unset, .unset, .unset, .unset, .unset, .unset] [])) t → P0 t := ⟨_, rfl, K9⟩
  obtain ⟨T11, h11, X11, e11, E11, A11, D11, -, st11⟩ := newO X0 hx hZ hown (hw _ (gw 1 rfl)) (hw _ (gw 2 rfl)) (hw _ (gw 3 rfl)) e0 (g := (mkF m 33 #[.val (.int p0), .val (.int p1), .val (.int p2), .val (.int p3), .val (.int p4), .val (.int p5), .val (.int v6), .val (.int v12), .val (.int v18), .val (.int v24), .val (.int v31), .unset, .unset, .unset, .unset, .unset, .unset] [])) rfl (hb hby at_33) (by decide) (by decide)
  obtain ⟨b33, g11⟩ : ∃ z, z = h0.size := ⟨_, rfl⟩
  have g_b33 : n0 ≤ b33 := Nat.le_trans Z0 (Nat.le_of_eq g11.symm)
  have ne_dce_b33 : dce ≠ b33 := Nat.ne_of_lt (Nat.lt_of_lt_of_le H0.lt (Nat.le_of_eq g11.symm))
  rw [← g11] at A11 D11 st11
  have Z11 : n0 ≤ h11.size := Nat.le_trans Z0 E11.1
  have F12 := H0.ext E11
  have F13 := Sta.ext E11 H1
  have F14 : Fld Z h11 b33 "java/util/AbstractList" "modCount" "I" (.int (0 : Int32)) := D11 (Or.inl (hw _ (gw 23 rfl))) (ty := .int) (by decide)
  have F15 : Fld Z h11 b33 "java/util/ArrayList" "elementData" "[Ljava/lang/Object;" .null := D11 (Or.inl (hw _ (gw 26 rfl))) (ty := (.array (.object "java/lang/Object"))) (by decide)
  have F16 : Fld Z h11 b33 "java/util/ArrayList" "size" "I" (.int (0 : Int32)) := D11 (Or.inl (hw _ (gw 44 rfl))) (ty := .int) (by decide)
  obtain ⟨_, _, ⟨T17, L17, k17, n17⟩, -, X17, ⟨Lc17, hQ17, l17, y17, z17⟩, st17⟩ := X11.specialBack hx (y := (⟨"java/util/ArrayList", "<init>", "()V"⟩ : MethodName)) rfl hown (mvT hZ (hw _ (gw 4 rfl))) (mvT hZ (hw _ (gw 5 rfl))) (mvT hZ (hw _ (gw 6 rfl))) (by decide) (backOf (W := 1) (rm_ali l Z a0 hw [] b33 _ _ (0 : Int32) dce h11 n0 Z11 A11 F14 F15 F16 F13 g_b33) hZ (hw _ (gw 6 rfl)) (hw _ (gw 3 rfl)) (by decide) (by decide)) (g := (mkF m 37 #[.val (.int p0), .val (.int p1), .val (.int p2), .val (.int p3), .val (.int p4), .val (.int p5), .val (.int v6), .val (.int v12), .val (.int v18), .val (.int v24), .val (.int v31), .unset, .unset, .unset, .unset, .unset, .unset] [(.ref b33), (.ref b33)])) rfl (by rw [hml]; rfl) (Steps.refl _) (a := b33) (argsL := []) (rest := [(.ref b33)]) (lenOf law1_pd0 rfl) rfl (by show 2 * 0 + _ ≤ _; exact Nat.le_of_eq rfl) (hb hby at_37) (fun _ _ => ⟨rfl, e11, (by decide : 1 + 0 ≤ _), (by decide : 3 + 0 ≤ _)⟩)
  dsimp only [Pt.U, Pt.locs, Pt.cells, Pt.slots] at X17 l17 y17 z17 st17 hQ17
  rw [l17, y17, z17] at X17
  obtain ⟨h17, e17⟩ : ∃ z, T17.heap = z := ⟨_, rfl⟩
  rw [e17] at hQ17
  obtain ⟨rfl, N17q, Kq17, F18, F19, F20, F21⟩ := hQ17
  have N17 := Fr.app N0 N17q
  have Z17 : n0 ≤ h17.size := Nat.le_trans Z11 Kq17.1
  have F22 := F12.keep Kq17 (ninS ne_dce_b33 nin0)
  have F23 := own_keepS F13 Kq17 (allS (own_plE A11) all0)
  obtain ⟨T24, h24, X24, e24, E24, A24, D24, -, st24⟩ := newO X17 hx hZ hown (hw _ (gw 57 rfl)) (hw _ (gw 58 rfl)) (hw _ (gw 59 rfl)) e17 (g := (mkF m 49 #[.val (.int p0), .val (.int p1), .val (.int p2), .val (.int p3), .val (.int p4), .val (.int p5), .val (.int v6), .val (.int v12), .val (.int v18), .val (.int v24), .val (.int v31), .val (.ref b33), .unset, .unset, .unset, .unset, .unset] [(.ref b33)])) rfl (hb hby at_49) (by decide) (by decide)
  obtain ⟨b49, g24⟩ : ∃ z, z = h17.size := ⟨_, rfl⟩
  have g_b49 : n0 ≤ b49 := Nat.le_trans Z17 (Nat.le_of_eq g24.symm)
  have ne_dce_b49 : dce ≠ b49 := Nat.ne_of_lt (Nat.lt_of_lt_of_le F22.lt (Nat.le_of_eq g24.symm))
  have ne_b33_b49 : b33 ≠ b49 := Nat.ne_of_lt (Nat.lt_of_lt_of_le F18.lt (Nat.le_of_eq g24.symm))
  rw [← g24] at A24 D24 st24
  have Z24 : n0 ≤ h24.size := Nat.le_trans Z17 E24.1
  have F25 := F22.ext E24
  have F26 := Sta.ext E24 F23
  have F27 := Exa.ext E24 F18
  have F28 := Fld.ext E24 F19
  have F29 := Fld.ext E24 F20
  have F30 := Fld.ext E24 F21
  have F31 : Fld Z h24 b49 "com/example/termwright/termwright/Commit$Segment" "name" "Ljava/lang/String;" .null := D24 (Or.inr (hw _ (gw 81 rfl))) (ty := (.object "java/lang/String")) (by decide)
  have F32 : Fld Z h24 b49 "com/example/termwright/termwright/Commit$Segment" "documentCount" "I" (.int (0 : Int32)) := D24 (Or.inr (hw _ (gw 83 rfl))) (ty := .int) (by decide)
  have F33 : Fld Z h24 b49 "com/example/termwright/termwright/Commit$Segment" "length" "J" (.long (0 : Int64)) := D24 (Or.inr (hw _ (gw 85 rfl))) (ty := .long) (by decide)
  have F34 : Fld Z h24 b49 "com/example/termwright/termwright/Commit$Segment" "checksum" "I" (.int (0 : Int32)) := D24 (Or.inr (hw _ (gw 87 rfl))) (ty := .int) (by decide)
  have F35 : Fld Z h24 b49 "com/example/termwright/termwright/Commit$Segment" "deletions" "Lcom/example/termwright/termwright/Commit$DeletionsFile;" .null := D24 (Or.inr (hw _ (gw 89 rfl))) (ty := (.object "com/example/termwright/termwright/Commit$DeletionsFile")) (by decide)
  obtain ⟨lit53, T36, h36, k36, X36, e36, E36, hS36, hk36, hZ, hown, st36⟩ := ldcS (show Stand p l e room_1 (s.setVm s.vm) m #[(.int p0), (.int p1), (.int p2), (.int p3), (.int p4), (.int p5)] below meth c T24 _ _ _ from X24) hx hZ hown (hw _ (gw 60 rfl)) hstr e24 ((State.WarmedH.refl s).since n0) Z24 (g := (mkF m 53 #[.val (.int p0), .val (.int p1), .val (.int p2), .val (.int p3), .val (.int p4), .val (.int p5), .val (.int v6), .val (.int v12), .val (.int v18), .val (.int v24), .val (.int v31), .val (.ref b33), .unset, .unset, .unset, .unset, .unset] [(.ref b49), (.ref b49), (.ref b33)])) rfl (hb hby at_53) (n := 4) (by decide) (by decide) (by decide) (by decide)
  have Z36 : n0 ≤ h36.size := Nat.le_trans Z24 E36.1
  have F37 := F25.ext E36
  have F38 := Sta.ext E36 F26
  have F39 := Exa.ext E36 F27
  have F40 := Fld.ext E36 F28
  have F41 := Fld.ext E36 F29
  have F42 := Fld.ext E36 F30
  have F43 := Exa.ext E36 A24
  have F44 := Fld.ext E36 F31
  have F45 := Fld.ext E36 F32
  have F46 := Fld.ext E36 F33
  have F47 := Fld.ext E36 F34
  have F48 := Fld.ext E36 F35
  obtain ⟨_, _, ⟨T49, L49, k49, n49⟩, -, X49, ⟨Lc49, hQ49, l49, y49, z49⟩, st49⟩ := X36.specialBack hx (y := (⟨"com/example/termwright/termwright/Commit$Segment", "<init>", "(Ljava/lang/String;IJI)V"⟩ : MethodName)) rfl hown (mvT hZ (hw _ (gw 68 rfl))) (mvT hZ (hw _ (gw 69 rfl))) (mvT hZ (hw _ (gw 70 rfl))) (by decide) (backOf (W := 2) (rm_sgo l Z a0 hw [] b49 lit53 v12 (0 : Int64) (0 : Int32) _ _ _ _ _ h36 n0 Z36 F43 F44 F45 F46 F47 F48 g_b49) hZ (hw _ (gw 70 rfl)) (hw _ (gw 59 rfl)) (by decide) (by decide)) (g := (mkF m 59 #[.val (.int p0), .val (.int p1), .val (.int p2), .val (.int p3), .val (.int p4), .val (.int p5), .val (.int v6), .val (.int v12), .val (.int v18), .val (.int v24), .val (.int v31), .val (.ref b33), .unset, .unset, .unset, .unset, .unset] [(.int (0 : Int32)), (.long (0 : Int64)), (.int v12), (.ref lit53), (.ref b49), (.ref b49), (.ref b33)])) rfl (by rw [hml]; rfl) (Steps.refl _) (a := b49) (argsL := [(.ref lit53), (.int v12), (.long (0 : Int64)), (.int (0 : Int32))]) (rest := [(.ref b49), (.ref b33)]) (lenOf law1_pd1 rfl) rfl (by show 2 * 0 + _ ≤ _; exact Nat.le_of_eq rfl) (hb hby at_59) (fun _ _ => ⟨rfl, e36, (by decide : 4 + 0 ≤ _), (by decide : 16 + 0 ≤ _)⟩)
  dsimp only [Pt.U, Pt.locs, Pt.cells, Pt.slots] at X49 l49 y49 z49 st49 hQ49
  rw [l49, y49, z49] at X49
  obtain ⟨h49, e49⟩ : ∃ z, T49.heap = z := ⟨_, rfl⟩
  rw [e49] at hQ49
  obtain ⟨rfl, N49q, Kq49, F50, F51, F52⟩ := hQ49
  have N49 := Fr.app N17 N49q
  have Z49 : n0 ≤ h49.size := Nat.le_trans Z36 Kq49.1
  have Y49 : k36 ≤ h49.size := Nat.le_trans hk36 Kq49.1
  have F53 := F37.keep Kq49 (ninS ne_dce_b49 nin0)
  have F54 := own_keepS F38 Kq49 (allS (own_plE F43) all0)
  have F55 := F39.keep Kq49
  have F56 := F40.keep Kq49 (ninS ne_b33_b49 nin0)
  have F57 := F41.keep Kq49 (ninS ne_b33_b49 nin0)
  have F58 := F42.keep Kq49 (ninS ne_b33_b49 nin0)
  obtain ⟨cq59, kq59, q59a, q59b, q59c⟩ := isOf hZ e49 F55
  obtain ⟨_, _, ⟨T59, L59, k59, n59⟩, -, X59, ⟨Lc59, hQ59, l59, y59, z59⟩, st59⟩ := X49.virtualBack hx (y := (⟨"java/util/ArrayList", "add", "(Ljava/lang/Object;)Z"⟩ : MethodName)) (z := (⟨"java/util/ArrayList", "add", "(Ljava/lang/Object;)Z"⟩ : MethodName)) hown (mvT hZ (hw _ (gw 90 rfl))) (mvT hZ (hw _ (gw 91 rfl))) (notFace_of_selects (args := #[]) (mvT hZ (hw _ (gw 93 rfl)))) (mvT hZ (hw _ (gw 93 rfl))) (mvT hZ (hw _ (gw 92 rfl))) (by decide) (backOf (W := 0) (rm_ada l Z a0 hw [] b33 b49 (0 : Int32) dce h49 n0 Z49 F55 F56 F57 F58 F53 F54 F50 g_b33 (Ne.symm ne_dce_b33) ne_b33_b49) hZ (hw _ (gw 94 rfl)) (hw _ (gw 3 rfl)) (by decide) (by decide)) q59a q59c (g := (mkF m 62 #[.val (.int p0), .val (.int p1), .val (.int p2), .val (.int p3), .val (.int p4), .val (.int p5), .val (.int v6), .val (.int v12), .val (.int v18), .val (.int v24), .val (.int v31), .val (.ref b33), .unset, .unset, .unset, .unset, .unset] [(.ref b49), (.ref b33)])) rfl (by rw [hml]; rfl) (Steps.refl _) (argsL := [(.ref b49)]) (rest := []) (lenOf law1_pd2 rfl) rfl (by show 2 * 0 + _ ≤ _; exact Nat.le_of_eq rfl) (hb hby at_62) (fun _ _ => ⟨rfl, e49, (by decide : 4 + 1 ≤ _), (by decide : 16 + 10 ≤ _)⟩)
  dsimp only [Pt.U, Pt.locs, Pt.cells, Pt.slots] at X59 l59 y59 z59 st59 hQ59
  rw [l59, y59, z59] at X59
  obtain ⟨h59, e59⟩ : ∃ z, T59.heap = z := ⟨_, rfl⟩
  rw [e59] at hQ59
  obtain ⟨ed, rfl, N59q, Kq59, gs_ed, F60, F61, F62, F63, F64⟩ := hQ59
  have N59 := Fr.app N49 N59q
  have g_ed : n0 ≤ ed := Nat.le_trans Z49 gs_ed
  have ne_dce_ed : dce ≠ ed := Nat.ne_of_lt (Nat.lt_of_lt_of_le F53.lt gs_ed)
  have ne_b33_ed : b33 ≠ ed := Nat.ne_of_lt (Nat.lt_of_lt_of_le F55.lt gs_ed)
  have ne_b49_ed : b49 ≠ ed := Nat.ne_of_lt (Nat.lt_of_lt_of_le F50.lt gs_ed)
  have Z59 : n0 ≤ h59.size := Nat.le_trans Z49 Kq59.1
  have Y59 : k36 ≤ h59.size := Nat.le_trans Y49 Kq59.1
  have F65 := F53.keep Kq59 (ninS ne_dce_b33 nin0)
  have F66 := own_keepS F54 Kq59 (allS (own_plE F55) all0)
  have F67 := F50.keep Kq59
  have F68 := F51.keep Kq59 (ninS (Ne.symm ne_b33_b49) nin0)
  have F69 := F52.keep Kq59 (ninS (Ne.symm ne_b33_b49) nin0)
  obtain ⟨T70, h70, X70, e70, E70, A70, D70, -, st70⟩ := newO X59 hx hZ hown (hw _ (gw 27 rfl)) (hw _ (gw 28 rfl)) (hw _ (gw 29 rfl)) e59 (g := (mkF m 141 #[.val (.int p0), .val (.int p1), .val (.int p2), .val (.int p3), .val (.int p4), .val (.int p5), .val (.int v6), .val (.int v12), .val (.int v18), .val (.int v24), .val (.int v31), .val (.ref b33), .unset, .unset, .unset, .unset, .unset] [])) rfl (hb hby at_141) (by decide) (by decide)
  obtain ⟨b141, g70⟩ : ∃ z, z = h59.size := ⟨_, rfl⟩
  have g_b141 : n0 ≤ b141 := Nat.le_trans Z59 (Nat.le_of_eq g70.symm)
  have ne_dce_b141 : dce ≠ b141 := Nat.ne_of_lt (Nat.lt_of_lt_of_le F65.lt (Nat.le_of_eq g70.symm))
  have ne_b33_b141 : b33 ≠ b141 := Nat.ne_of_lt (Nat.lt_of_lt_of_le F60.lt (Nat.le_of_eq g70.symm))
  have ne_b49_b141 : b49 ≠ b141 := Nat.ne_of_lt (Nat.lt_of_lt_of_le F67.lt (Nat.le_of_eq g70.symm))
  have ne_ed_b141 : ed ≠ b141 := Nat.ne_of_lt (Nat.lt_of_lt_of_le F64.lt (Nat.le_of_eq g70.symm))
  rw [← g70] at A70 D70 st70
  have Z70 : n0 ≤ h70.size := Nat.le_trans Z59 E70.1
  have Y70 : k36 ≤ h70.size := Nat.le_trans Y59 E70.1
  have F71 := F65.ext E70
  have F72 := Sta.ext E70 F66
  have F73 := Exa.ext E70 F60
  have F74 := Fld.ext E70 F61
  have F75 := Fld.ext E70 F62
  have F76 := Fld.ext E70 F63
  have F77 := Exa.ext E70 F67
  have F78 := Fld.ext E70 F68
  have F79 := Fld.ext E70 F69
  have F80 := F64.ext E70
  have F81 : Fld Z h70 b141 "com/example/termwright/termwright/DocumentNumbers" "bases" "[I" .null := D70 (Or.inr (hw _ (gw 47 rfl))) (ty := (.array .int)) (by decide)
  have F82 : Fld Z h70 b141 "com/example/termwright/termwright/DocumentNumbers" "count" "I" (.int (0 : Int32)) := D70 (Or.inr (hw _ (gw 49 rfl))) (ty := .int) (by decide)
  have F83 : Fld Z h70 b141 "com/example/termwright/termwright/DocumentNumbers" "deletedCount" "I" (.int (0 : Int32)) := D70 (Or.inr (hw _ (gw 51 rfl))) (ty := .int) (by decide)
  obtain ⟨_, _, ⟨T84, L84, k84, n84⟩, -, X84, ⟨Lc84, hQ84, l84, y84, z84⟩, st84⟩ := X70.specialBack hx (y := (⟨"com/example/termwright/termwright/DocumentNumbers", "<init>", "(Ljava/util/List;)V"⟩ : MethodName)) rfl hown (mvT hZ (hw _ (gw 30 rfl))) (mvT hZ (hw _ (gw 31 rfl))) (mvT hZ (hw _ (gw 32 rfl))) (by decide) (backOf (W := 1) (rm_dn1 l Z a0 hw [] b141 b33 _ _ _ ed b49 (updV (fun _ => .null) 0 (.ref b49)) v12 h70 n0 Z70 A70 F81 F82 F83 F73 F76 F75 F80 F77 F78 F79 g_b141 (Ne.symm ne_b33_b141) (Ne.symm ne_ed_b141) (Ne.symm ne_b49_b141) (by simp [updV]) (own_no0 hv12)) hZ (hw _ (gw 32 rfl)) (hw _ (gw 29 rfl)) (by decide) (by decide)) (g := (mkF m 147 #[.val (.int p0), .val (.int p1), .val (.int p2), .val (.int p3), .val (.int p4), .val (.int p5), .val (.int v6), .val (.int v12), .val (.int v18), .val (.int v24), .val (.int v31), .val (.ref b33), .unset, .unset, .unset, .unset, .unset] [(.ref b33), (.ref b141), (.ref b141)])) rfl (by rw [hml]; rfl) (Steps.refl _) (a := b141) (argsL := [(.ref b33)]) (rest := [(.ref b141)]) (lenOf law1_pd3 rfl) rfl (by show 2 * 0 + _ ≤ _; exact Nat.le_of_eq rfl) (hb hby at_147) (fun _ _ => ⟨rfl, e70, (by decide : 6 + 1 ≤ _), (by decide : 29 + 1 ≤ _)⟩)
  dsimp only [Pt.U, Pt.locs, Pt.cells, Pt.slots] at X84 l84 y84 z84 st84 hQ84
  rw [l84, y84, z84] at X84
  obtain ⟨h84, e84⟩ : ∃ z, T84.heap = z := ⟨_, rfl⟩
  rw [e84] at hQ84
  obtain ⟨bb, rfl, N84q, Kq84, gs_bb, F85, F86, F87⟩ := hQ84
  have N84 := Fr.app N59 N84q
  have g_bb : n0 ≤ bb := Nat.le_trans Z70 gs_bb
  have ne_dce_bb : dce ≠ bb := Nat.ne_of_lt (Nat.lt_of_lt_of_le F71.lt gs_bb)
  have ne_b33_bb : b33 ≠ bb := Nat.ne_of_lt (Nat.lt_of_lt_of_le F73.lt gs_bb)
  have ne_b49_bb : b49 ≠ bb := Nat.ne_of_lt (Nat.lt_of_lt_of_le F77.lt gs_bb)
  have ne_ed_bb : ed ≠ bb := Nat.ne_of_lt (Nat.lt_of_lt_of_le F80.lt gs_bb)
  have ne_b141_bb : b141 ≠ bb := Nat.ne_of_lt (Nat.lt_of_lt_of_le A70.lt gs_bb)
  have Z84 : n0 ≤ h84.size := Nat.le_trans Z70 Kq84.1
  have Y84 : k36 ≤ h84.size := Nat.le_trans Y70 Kq84.1
  have F88 := F71.keep Kq84 (ninS ne_dce_b141 nin0)
  have F89 := own_keepS F72 Kq84 (allS (own_plE A70) all0)
  have F90 := F73.keep Kq84
  have F91 := F74.keep Kq84 (ninS ne_b33_b141 nin0)
  have F92 := F75.keep Kq84 (ninS ne_b33_b141 nin0)
  have F93 := F76.keep Kq84 (ninS ne_b33_b141 nin0)
  have F94 := F77.keep Kq84
  have F95 := F78.keep Kq84 (ninS ne_b49_b141 nin0)
  have F96 := F79.keep Kq84 (ninS ne_b49_b141 nin0)
  have F97 := F80.keep Kq84 (ninS ne_ed_b141 nin0)
  have K98 : ∀ t, Steps p.tables e below (T84.setTop (mkF m 163 #[.val (.int p0), .val (.int p1), .val (.int p2), .val (.int p3), .val (.int p4), .val (.int p5), .val (.int v6), .val (.int v12), .val (.int v18), .val (.int v24), .val (.int v31), .val (.ref b33), .val (.ref b141), .val (.int v12), .val (.int (v12 + v18)), .unset, .unset] [])) t → P0 t := by
    intro t kt
    refine K10 t ?_
    show Steps p.tables e below (s₁.setTop (mkF m 33 #[.val (.int p0), .val (.int p1), .val (.int p2), .val (.int p3), .val (.int p4), .val (.int p5), .val (.int v6), .val (.int v12), .val (.int v18), .val (.int v24), .val (.int v31), .unset, .unset, .unset, .unset, .unset, .unset] [])) t
    refine st11 _ ?_
    show Steps p.tables e below (T11.setTop (mkF m 36 #[.val (.int p0), .val (.int p1), .val (.int p2), .val (.int p3), .val (.int p4), .val (.int p5), .val (.int v6), .val (.int v12), .val (.int v18), .val (.int v24), .val (.int v31), .unset, .unset, .unset, .unset, .unset, .unset] [(.ref b33)])) t
    refine XS.dup X11.here hx rfl (hb hby at_36) rfl rfl ?_
    show Steps p.tables e below (T11.setTop (mkF m 37 #[.val (.int p0), .val (.int p1), .val (.int p2), .val (.int p3), .val (.int p4), .val (.int p5), .val (.int v6), .val (.int v12), .val (.int v18), .val (.int v24), .val (.int v31), .unset, .unset, .unset, .unset, .unset, .unset] [(.ref b33), (.ref b33)])) t
    refine st17.trans ?_
    show Steps p.tables e below (T17.setTop (mkF m 40 #[.val (.int p0), .val (.int p1), .val (.int p2), .val (.int p3), .val (.int p4), .val (.int p5), .val (.int v6), .val (.int v12), .val (.int v18), .val (.int v24), .val (.int v31), .unset, .unset, .unset, .unset, .unset, .unset] [(.ref b33)])) t
    refine XS.astore X17.here hx rfl (hb hby at_40) rfl rfl (l' := #[.val (.int p0), .val (.int p1), .val (.int p2), .val (.int p3), .val (.int p4), .val (.int p5), .val (.int v6), .val (.int v12), .val (.int v18), .val (.int v24), .val (.int v31), .val (.ref b33), .unset, .unset, .unset, .unset, .unset]) rfl ?_
    refine XS.iload X17.here hx rfl (hb hby at_42) rfl ?_
    show Steps p.tables e below (T17.setTop (mkF m 44 #[.val (.int p0), .val (.int p1), .val (.int p2), .val (.int p3), .val (.int p4), .val (.int p5), .val (.int v6), .val (.int v12), .val (.int v18), .val (.int v24), .val (.int v31), .val (.ref b33), .unset, .unset, .unset, .unset, .unset] [(.int v6)])) t
    refine XS.ifNo X17.here hx rfl (hb hby at_44) rfl ((if0 _ _).trans (tlt (by rw [hv6, hn]; decide)).2.2.2) ?_
    refine XS.aload X17.here hx rfl (hb hby at_47) rfl rfl ?_
    show Steps p.tables e below (T17.setTop (mkF m 49 #[.val (.int p0), .val (.int p1), .val (.int p2), .val (.int p3), .val (.int p4), .val (.int p5), .val (.int v6), .val (.int v12), .val (.int v18), .val (.int v24), .val (.int v31), .val (.ref b33), .unset, .unset, .unset, .unset, .unset] [(.ref b33)])) t
    refine st24 _ ?_
    show Steps p.tables e below (T24.setTop (mkF m 52 #[.val (.int p0), .val (.int p1), .val (.int p2), .val (.int p3), .val (.int p4), .val (.int p5), .val (.int v6), .val (.int v12), .val (.int v18), .val (.int v24), .val (.int v31), .val (.ref b33), .unset, .unset, .unset, .unset, .unset] [(.ref b49), (.ref b33)])) t
    refine XS.dup X24.here hx rfl (hb hby at_52) rfl rfl ?_
    show Steps p.tables e below (T24.setTop (mkF m 53 #[.val (.int p0), .val (.int p1), .val (.int p2), .val (.int p3), .val (.int p4), .val (.int p5), .val (.int v6), .val (.int v12), .val (.int v18), .val (.int v24), .val (.int v31), .val (.ref b33), .unset, .unset, .unset, .unset, .unset] [(.ref b49), (.ref b49), (.ref b33)])) t
    refine st36 _ ?_
    refine XS.iload X36.here hx rfl (hb hby at_55) rfl ?_
    refine XS.lconst X36.here hx rfl (hb hby at_57) ?_
    refine XS.iconst X36.here hx rfl (hb hby at_58) ?_
    show Steps p.tables e below (T36.setTop (mkF m 59 #[.val (.int p0), .val (.int p1), .val (.int p2), .val (.int p3), .val (.int p4), .val (.int p5), .val (.int v6), .val (.int v12), .val (.int v18), .val (.int v24), .val (.int v31), .val (.ref b33), .unset, .unset, .unset, .unset, .unset] [(.int (0 : Int32)), (.long (0 : Int64)), (.int v12), (.ref lit53), (.ref b49), (.ref b49), (.ref b33)])) t
    refine st49.trans ?_
    show Steps p.tables e below (T49.setTop (mkF m 62 #[.val (.int p0), .val (.int p1), .val (.int p2), .val (.int p3), .val (.int p4), .val (.int p5), .val (.int v6), .val (.int v12), .val (.int v18), .val (.int v24), .val (.int v31), .val (.ref b33), .unset, .unset, .unset, .unset, .unset] [(.ref b49), (.ref b33)])) t
    refine st59.trans ?_
    show Steps p.tables e below (T59.setTop (mkF m 65 #[.val (.int p0), .val (.int p1), .val (.int p2), .val (.int p3), .val (.int p4), .val (.int p5), .val (.int v6), .val (.int v12), .val (.int v18), .val (.int v24), .val (.int v31), .val (.ref b33), .unset, .unset, .unset, .unset, .unset] [(.int (nar .boolean (1 : Int32)))])) t
    refine XS.pop X59.here hx rfl (hb hby at_65) rfl rfl ?_
    refine XS.iload X59.here hx rfl (hb hby at_66) rfl ?_
    refine XS.iconst X59.here hx rfl (hb hby at_68) ?_
    show Steps p.tables e below (T59.setTop (mkF m 69 #[.val (.int p0), .val (.int p1), .val (.int p2), .val (.int p3), .val (.int p4), .val (.int p5), .val (.int v6), .val (.int v12), .val (.int v18), .val (.int v24), .val (.int v31), .val (.ref b33), .unset, .unset, .unset, .unset, .unset] [(.int (1 : Int32)), (.int v6)])) t
    refine XS.icmpYes X59.here hx rfl (pc0 := 69) (pc' := 91) rfl (hb hby at_69) rfl (flt (by rw [hv6, hn]; decide)).2.2.2 (by decide) (by decide) ?_
    refine XS.iload X59.here hx rfl (hb hby at_91) rfl ?_
    refine XS.iconst X59.here hx rfl (hb hby at_93) ?_
    show Steps p.tables e below (T59.setTop (mkF m 94 #[.val (.int p0), .val (.int p1), .val (.int p2), .val (.int p3), .val (.int p4), .val (.int p5), .val (.int v6), .val (.int v12), .val (.int v18), .val (.int v24), .val (.int v31), .val (.ref b33), .unset, .unset, .unset, .unset, .unset] [(.int (2 : Int32)), (.int v6)])) t
    refine XS.icmpYes X59.here hx rfl (pc0 := 94) (pc' := 116) rfl (hb hby at_94) rfl (flt (by rw [hv6, hn]; decide)).2.2.2 (by decide) (by decide) ?_
    refine XS.iload X59.here hx rfl (hb hby at_116) rfl ?_
    refine XS.iconst X59.here hx rfl (hb hby at_118) ?_
    show Steps p.tables e below (T59.setTop (mkF m 119 #[.val (.int p0), .val (.int p1), .val (.int p2), .val (.int p3), .val (.int p4), .val (.int p5), .val (.int v6), .val (.int v12), .val (.int v18), .val (.int v24), .val (.int v31), .val (.ref b33), .unset, .unset, .unset, .unset, .unset] [(.int (3 : Int32)), (.int v6)])) t
    refine XS.icmpYes X59.here hx rfl (pc0 := 119) (pc' := 141) rfl (hb hby at_119) rfl (flt (by rw [hv6, hn]; decide)).2.2.2 (by decide) (by decide) ?_
    show Steps p.tables e below (T59.setTop (mkF m 141 #[.val (.int p0), .val (.int p1), .val (.int p2), .val (.int p3), .val (.int p4), .val (.int p5), .val (.int v6), .val (.int v12), .val (.int v18), .val (.int v24), .val (.int v31), .val (.ref b33), .unset, .unset, .unset, .unset, .unset] [])) t
    refine st70 _ ?_
    show Steps p.tables e below (T70.setTop (mkF m 144 #[.val (.int p0), .val (.int p1), .val (.int p2), .val (.int p3), .val (.int p4), .val (.int p5), .val (.int v6), .val (.int v12), .val (.int v18), .val (.int v24), .val (.int v31), .val (.ref b33), .unset, .unset, .unset, .unset, .unset] [(.ref b141)])) t
    refine XS.dup X70.here hx rfl (hb hby at_144) rfl rfl ?_
    refine XS.aload X70.here hx rfl (hb hby at_145) rfl rfl ?_
    show Steps p.tables e below (T70.setTop (mkF m 147 #[.val (.int p0), .val (.int p1), .val (.int p2), .val (.int p3), .val (.int p4), .val (.int p5), .val (.int v6), .val (.int v12), .val (.int v18), .val (.int v24), .val (.int v31), .val (.ref b33), .unset, .unset, .unset, .unset, .unset] [(.ref b33), (.ref b141), (.ref b141)])) t
    refine st84.trans ?_
    show Steps p.tables e below (T84.setTop (mkF m 150 #[.val (.int p0), .val (.int p1), .val (.int p2), .val (.int p3), .val (.int p4), .val (.int p5), .val (.int v6), .val (.int v12), .val (.int v18), .val (.int v24), .val (.int v31), .val (.ref b33), .unset, .unset, .unset, .unset, .unset] [(.ref b141)])) t
    refine XS.astore X84.here hx rfl (hb hby at_150) rfl rfl (l' := #[.val (.int p0), .val (.int p1), .val (.int p2), .val (.int p3), .val (.int p4), .val (.int p5), .val (.int v6), .val (.int v12), .val (.int v18), .val (.int v24), .val (.int v31), .val (.ref b33), .val (.ref b141), .unset, .unset, .unset, .unset]) rfl ?_
    refine XS.iload X84.here hx rfl (hb hby at_152) rfl ?_
    show Steps p.tables e below (T84.setTop (mkF m 154 #[.val (.int p0), .val (.int p1), .val (.int p2), .val (.int p3), .val (.int p4), .val (.int p5), .val (.int v6), .val (.int v12), .val (.int v18), .val (.int v24), .val (.int v31), .val (.ref b33), .val (.ref b141), .unset, .unset, .unset, .unset] [(.int v12)])) t
    refine XS.istore X84.here hx rfl (hb hby at_154) rfl (l' := #[.val (.int p0), .val (.int p1), .val (.int p2), .val (.int p3), .val (.int p4), .val (.int p5), .val (.int v6), .val (.int v12), .val (.int v18), .val (.int v24), .val (.int v31), .val (.ref b33), .val (.ref b141), .val (.int v12), .unset, .unset, .unset]) rfl ?_
    refine XS.iload X84.here hx rfl (hb hby at_156) rfl ?_
    refine XS.iload X84.here hx rfl (hb hby at_158) rfl ?_
    show Steps p.tables e below (T84.setTop (mkF m 160 #[.val (.int p0), .val (.int p1), .val (.int p2), .val (.int p3), .val (.int p4), .val (.int p5), .val (.int v6), .val (.int v12), .val (.int v18), .val (.int v24), .val (.int v31), .val (.ref b33), .val (.ref b141), .val (.int v12), .unset, .unset, .unset] [(.int v18), (.int v12)])) t
    refine XS.iadd X84.here hx rfl (hb hby at_160) rfl ?_
    show Steps p.tables e below (T84.setTop (mkF m 161 #[.val (.int p0), .val (.int p1), .val (.int p2), .val (.int p3), .val (.int p4), .val (.int p5), .val (.int v6), .val (.int v12), .val (.int v18), .val (.int v24), .val (.int v31), .val (.ref b33), .val (.ref b141), .val (.int v12), .unset, .unset, .unset] [(.int (v12 + v18))])) t
    refine XS.istore X84.here hx rfl (hb hby at_161) rfl (l' := #[.val (.int p0), .val (.int p1), .val (.int p2), .val (.int p3), .val (.int p4), .val (.int p5), .val (.int v6), .val (.int v12), .val (.int v18), .val (.int v24), .val (.int v31), .val (.ref b33), .val (.ref b141), .val (.int v12), .val (.int (v12 + v18)), .unset, .unset]) rfl ?_
    exact kt
  obtain ⟨v161, hv161, K99⟩ : ∃ v161 : Int32, v161 = (v12 + v18) ∧ ∀ t, Steps p.tables e below (T84.setTop (mkF m 163 #[.val (.int p0), .val (.int p1), .val (.int p2), .val (.int p3), .val (.int p4), .val (.int p5), .val (.int v6), .val (.int v12), .val (.int v18), .val (.int v24), .val (.int v31), .val (.ref b33), .val (.ref b141), .val (.int v12), .val (.int v161), .unset, .unset] [])) t → P0 t := ⟨_, rfl, K98⟩
  have K100 : ∀ t, Steps p.tables e below (T84.setTop (mkF m 170 #[.val (.int p0), .val (.int p1), .val (.int p2), .val (.int p3), .val (.int p4), .val (.int p5), .val (.int v6), .val (.int v12), .val (.int v18), .val (.int v24), .val (.int v31), .val (.ref b33), .val (.ref b141), .val (.int v12), .val (.int v161), .val (.int (v161 + v24)), .unset] [])) t → P0 t := by
    intro t kt
    refine K99 t ?_
    refine XS.iload X84.here hx rfl (hb hby at_163) rfl ?_
    refine XS.iload X84.here hx rfl (hb hby at_165) rfl ?_
    show Steps p.tables e below (T84.setTop (mkF m 167 #[.val (.int p0), .val (.int p1), .val (.int p2), .val (.int p3), .val (.int p4), .val (.int p5), .val (.int v6), .val (.int v12), .val (.int v18), .val (.int v24), .val (.int v31), .val (.ref b33), .val (.ref b141), .val (.int v12), .val (.int v161), .unset, .unset] [(.int v24), (.int v161)])) t
    refine XS.iadd X84.here hx rfl (hb hby at_167) rfl ?_
    show Steps p.tables e below (T84.setTop (mkF m 168 #[.val (.int p0), .val (.int p1), .val (.int p2), .val (.int p3), .val (.int p4), .val (.int p5), .val (.int v6), .val (.int v12), .val (.int v18), .val (.int v24), .val (.int v31), .val (.ref b33), .val (.ref b141), .val (.int v12), .val (.int v161), .unset, .unset] [(.int (v161 + v24))])) t
    refine XS.istore X84.here hx rfl (hb hby at_168) rfl (l' := #[.val (.int p0), .val (.int p1), .val (.int p2), .val (.int p3), .val (.int p4), .val (.int p5), .val (.int v6), .val (.int v12), .val (.int v18), .val (.int v24), .val (.int v31), .val (.ref b33), .val (.ref b141), .val (.int v12), .val (.int v161), .val (.int (v161 + v24)), .unset]) rfl ?_
    exact kt
  obtain ⟨v168, hv168, K101⟩ : ∃ v168 : Int32, v168 = (v161 + v24) ∧ ∀ t, Steps p.tables e below (T84.setTop (mkF m 170 #[.val (.int p0), .val (.int p1), .val (.int p2), .val (.int p3), .val (.int p4), .val (.int p5), .val (.int v6), .val (.int v12), .val (.int v18), .val (.int v24), .val (.int v31), .val (.ref b33), .val (.ref b141), .val (.int v12), .val (.int v161), .val (.int v168), .unset] [])) t → P0 t := ⟨_, rfl, K100⟩
  obtain ⟨cq102, kq102, q102a, q102b, q102c⟩ := isOf hZ e84 F85
  obtain ⟨_, _, ⟨T102, L102, k102, n102⟩, -, X102, ⟨Lc102, hQ102, l102, y102, z102⟩, st102⟩ := X84.virtualBack hx (y := (⟨"com/example/termwright/termwright/DocumentNumbers", "segmentOf", "(I)I"⟩ : MethodName)) (z := (⟨"com/example/termwright/termwright/DocumentNumbers", "segmentOf", "(I)I"⟩ : MethodName)) hown (mvT hZ (hw _ (gw 52 rfl))) (mvT hZ (hw _ (gw 53 rfl))) (notFace_of_selects (args := #[]) (mvT hZ (hw _ (gw 55 rfl)))) (mvT hZ (hw _ (gw 55 rfl))) (mvT hZ (hw _ (gw 54 rfl))) (by decide) (backOf (W := 0) (rm_se1 l Z a0 hw [] b141 p5 bb (fB1 v12) h84 n0 Z84 F86 F87) hZ (hw _ (gw 56 rfl)) (hw _ (gw 29 rfl)) (by decide) (by decide)) q102a q102c (g := (mkF m 225 #[.val (.int p0), .val (.int p1), .val (.int p2), .val (.int p3), .val (.int p4), .val (.int p5), .val (.int v6), .val (.int v12), .val (.int v18), .val (.int v24), .val (.int v31), .val (.ref b33), .val (.ref b141), .val (.int v12), .val (.int v161), .val (.int v168), .val (.int (0 : Int32))] [(.int p5), (.ref b141)])) rfl (by rw [hml]; rfl) (Steps.refl _) (argsL := [(.int p5)]) (rest := []) (lenOf law1_pd4 rfl) rfl (by show 2 * 0 + _ ≤ _; exact Nat.le_of_eq rfl) (hb hby at_225) (fun _ _ => ⟨rfl, e84, (by decide : 7 + 0 ≤ _), (by decide : 30 + 0 ≤ _)⟩)
  dsimp only [Pt.U, Pt.locs, Pt.cells, Pt.slots] at X102 l102 y102 z102 st102 hQ102
  rw [l102, y102, z102] at X102
  obtain ⟨rfl, N102q, e102⟩ := hQ102
  have N102 := Fr.app N84 N102q
  have K103 : ∀ t, Steps p.tables e below (T102.setTop (mkF m 230 #[.val (.int p0), .val (.int p1), .val (.int p2), .val (.int p3), .val (.int p4), .val (.int p5), .val (.int v6), .val (.int v12), .val (.int v18), .val (.int v24), .val (.int v31), .val (.ref b33), .val (.ref b141), .val (.int v12), .val (.int v161), .val (.int v168), .val (.int (0 : Int32))] [(.int (0 : Int32)), (.int (fSeg1 p5 (fB1 v12)))])) t → P0 t := by
    intro t kt
    refine K101 t ?_
    refine XS.iconst X84.here hx rfl (hb hby at_170) ?_
    show Steps p.tables e below (T84.setTop (mkF m 171 #[.val (.int p0), .val (.int p1), .val (.int p2), .val (.int p3), .val (.int p4), .val (.int p5), .val (.int v6), .val (.int v12), .val (.int v18), .val (.int v24), .val (.int v31), .val (.ref b33), .val (.ref b141), .val (.int v12), .val (.int v161), .val (.int v168), .unset] [(.int (0 : Int32))])) t
    refine XS.istore X84.here hx rfl (hb hby at_171) rfl (l' := #[.val (.int p0), .val (.int p1), .val (.int p2), .val (.int p3), .val (.int p4), .val (.int p5), .val (.int v6), .val (.int v12), .val (.int v18), .val (.int v24), .val (.int v31), .val (.ref b33), .val (.ref b141), .val (.int v12), .val (.int v161), .val (.int v168), .val (.int (0 : Int32))]) rfl ?_
    refine XS.iload X84.here hx rfl (hb hby at_173) rfl ?_
    refine XS.iconst X84.here hx rfl (hb hby at_175) ?_
    show Steps p.tables e below (T84.setTop (mkF m 176 #[.val (.int p0), .val (.int p1), .val (.int p2), .val (.int p3), .val (.int p4), .val (.int p5), .val (.int v6), .val (.int v12), .val (.int v18), .val (.int v24), .val (.int v31), .val (.ref b33), .val (.ref b141), .val (.int v12), .val (.int v161), .val (.int v168), .val (.int (0 : Int32))] [(.int (1 : Int32)), (.int v6)])) t
    refine XS.icmpYes X84.here hx rfl (pc0 := 176) (pc' := 189) rfl (hb hby at_176) rfl (flt (by rw [hv6, hn]; decide)).2.2.2 (by decide) (by decide) ?_
    refine XS.iload X84.here hx rfl (hb hby at_189) rfl ?_
    refine XS.iconst X84.here hx rfl (hb hby at_191) ?_
    show Steps p.tables e below (T84.setTop (mkF m 192 #[.val (.int p0), .val (.int p1), .val (.int p2), .val (.int p3), .val (.int p4), .val (.int p5), .val (.int v6), .val (.int v12), .val (.int v18), .val (.int v24), .val (.int v31), .val (.ref b33), .val (.ref b141), .val (.int v12), .val (.int v161), .val (.int v168), .val (.int (0 : Int32))] [(.int (2 : Int32)), (.int v6)])) t
    refine XS.icmpYes X84.here hx rfl (pc0 := 192) (pc' := 205) rfl (hb hby at_192) rfl (flt (by rw [hv6, hn]; decide)).2.2.2 (by decide) (by decide) ?_
    refine XS.iload X84.here hx rfl (hb hby at_205) rfl ?_
    refine XS.iconst X84.here hx rfl (hb hby at_207) ?_
    show Steps p.tables e below (T84.setTop (mkF m 208 #[.val (.int p0), .val (.int p1), .val (.int p2), .val (.int p3), .val (.int p4), .val (.int p5), .val (.int v6), .val (.int v12), .val (.int v18), .val (.int v24), .val (.int v31), .val (.ref b33), .val (.ref b141), .val (.int v12), .val (.int v161), .val (.int v168), .val (.int (0 : Int32))] [(.int (3 : Int32)), (.int v6)])) t
    refine XS.icmpYes X84.here hx rfl (pc0 := 208) (pc' := 221) rfl (hb hby at_208) rfl (flt (by rw [hv6, hn]; decide)).2.2.2 (by decide) (by decide) ?_
    refine XS.aload X84.here hx rfl (hb hby at_221) rfl rfl ?_
    refine XS.iload X84.here hx rfl (hb hby at_223) rfl ?_
    show Steps p.tables e below (T84.setTop (mkF m 225 #[.val (.int p0), .val (.int p1), .val (.int p2), .val (.int p3), .val (.int p4), .val (.int p5), .val (.int v6), .val (.int v12), .val (.int v18), .val (.int v24), .val (.int v31), .val (.ref b33), .val (.ref b141), .val (.int v12), .val (.int v161), .val (.int v168), .val (.int (0 : Int32))] [(.int p5), (.ref b141)])) t
    refine st102.trans ?_
    refine XS.iload X102.here hx rfl (hb hby at_228) rfl ?_
    exact kt
  obtain ⟨j238_s0, hj238_s0, K106⟩ : ∃ (j238_s0 : Int32), j238_s0 = (if (fSeg1 p5 (fB1 v12)) = (0 : Int32) then (1 : Int32) else (0 : Int32)) ∧ ∀ t, Steps p.tables e below (T102.setTop (mkF m 238 #[.val (.int p0), .val (.int p1), .val (.int p2), .val (.int p3), .val (.int p4), .val (.int p5), .val (.int v6), .val (.int v12), .val (.int v18), .val (.int v24), .val (.int v31), .val (.ref b33), .val (.ref b141), .val (.int v12), .val (.int v161), .val (.int v168), .val (.int (0 : Int32))] [(.int j238_s0)])) t → P0 t := by
    by_cases hc230 : (fSeg1 p5 (fB1 v12)) = (0 : Int32)
    · have K104 : ∀ t, Steps p.tables e below (T102.setTop (mkF m 238 #[.val (.int p0), .val (.int p1), .val (.int p2), .val (.int p3), .val (.int p4), .val (.int p5), .val (.int v6), .val (.int v12), .val (.int v18), .val (.int v24), .val (.int v31), .val (.ref b33), .val (.ref b141), .val (.int v12), .val (.int v161), .val (.int v168), .val (.int (0 : Int32))] [(.int (1 : Int32))])) t → P0 t := by
        intro t kt
        refine K103 t ?_
        refine XS.icmpNo X102.here hx rfl (hb hby at_230) rfl (teq hc230).2 ?_
        refine XS.iconst X102.here hx rfl (hb hby at_233) ?_
        show Steps p.tables e below (T102.setTop (mkF m 234 #[.val (.int p0), .val (.int p1), .val (.int p2), .val (.int p3), .val (.int p4), .val (.int p5), .val (.int v6), .val (.int v12), .val (.int v18), .val (.int v24), .val (.int v31), .val (.ref b33), .val (.ref b141), .val (.int v12), .val (.int v161), .val (.int v168), .val (.int (0 : Int32))] [(.int (1 : Int32))])) t
        refine XS.goto X102.here hx rfl (pc0 := 234) (pc' := 238) rfl (hb hby at_234) (by decide) (by decide) ?_
        exact kt
      exact ⟨_, (if_pos hc230).symm, K104⟩
    · have K105 : ∀ t, Steps p.tables e below (T102.setTop (mkF m 238 #[.val (.int p0), .val (.int p1), .val (.int p2), .val (.int p3), .val (.int p4), .val (.int p5), .val (.int v6), .val (.int v12), .val (.int v18), .val (.int v24), .val (.int v31), .val (.ref b33), .val (.ref b141), .val (.int v12), .val (.int v161), .val (.int v168), .val (.int (0 : Int32))] [(.int (0 : Int32))])) t → P0 t := by
        intro t kt
        refine K103 t ?_
        refine XS.icmpYes X102.here hx rfl (pc0 := 230) (pc' := 237) rfl (hb hby at_230) rfl (feq hc230).2 (by decide) (by decide) ?_
        refine XS.iconst X102.here hx rfl (hb hby at_237) ?_
        exact kt
      exact ⟨_, (if_neg hc230).symm, K105⟩
  have hres : j238_s0 = 1 := own_plain1 p0 p1 p2 p3 p4 p5 dce v6 v12 v18 v24 v31 v161 v168 j238_s0 hn hv6 hv12 hv18 hv24 hv31 hv161 hv168 hj238_s0
  obtain ⟨fs, hr, hrun, hended, hW⟩ := X102.leaveW hS36 (by rw [e102]; exact Y84) (v := some (.int (1 : Int32))) (fun h => by rw [Bd.returns] at h; cases h)
  refine ⟨_, _, ?_, hrun, hended, _, _, rfl, ?_, hW.1, hW.2.1, hW.2.2.1, hW.2.2.2.mono (by decide) (by decide)⟩
  · rw [hres] at K106
    have q := K106 _ (retN X102 hx (t := .boolean) Bd.returns (by simp) (hb hby at_238) hr)
    rw [hP0] at q; exact q
  · exact ⟨rfl, N102⟩
theorem law2_pn : plainName "com/example/termwright/termwright/DocumentNumbersSegmentOfPinLaw" = true := by first | (simp [plainName, overriddenIn]; done) | decide +kernel
theorem law2_pd0 : parseMethodDescriptor "()V" = some ⟨[], none⟩ := by decide +kernel
theorem law2_pd1 : parseMethodDescriptor "(Ljava/lang/String;IJI)V" = some ⟨[(.object "java/lang/String"), .int, .long, .int], none⟩ := by decide +kernel
theorem law2_pd2 : parseMethodDescriptor "(Ljava/lang/Object;)Z" = some ⟨[(.object "java/lang/Object")], some .boolean⟩ := by decide +kernel
theorem law2_pd3 : parseMethodDescriptor "(Ljava/util/List;)V" = some ⟨[(.object "java/util/List")], none⟩ := by decide +kernel
theorem law2_pd4 : parseMethodDescriptor "(I)I" = some ⟨[.int], some .int⟩ := by decide +kernel
theorem law2_ef (m : MethodId) (x0 : Int32) (x1 : Int32) (x2 : Int32) (x3 : Int32) (x4 : Int32) (x5 : Int32) : entryFrame m #[(.int x0), (.int x1), (.int x2), (.int x3), (.int x4), (.int x5)] maxLocals = mkF m 0 #[.val (.int x0), .val (.int x1), .val (.int x2), .val (.int x3), .val (.int x4), .val (.int x5), .unset, .unset, .unset, .unset, .unset, .unset, .unset, .unset, .unset, .unset, .unset] [] := by first | (simp [entryFrame, mkF, argsToLocals, Value.category, maxLocals]; done) | rfl
set_option maxRecDepth 65536 in
set_option maxHeartbeats 40000000 in
theorem rm_law2 (l : Launch) (Z : State) (a0 : Array Value) (hw : ∀ d ∈ tables_1, d.before a0 Z = true) (ws : List Jvm.Cond) (p0 : Int32) (p1 : Int32) (p2 : Int32) (p3 : Int32) (p4 : Int32) (p5 : Int32) (dce : Addr) (h0 : Heap) (n0 : Nat) (Z0 : n0 ≤ h0.size) (H0 : LA Z h0 dce 0) (H1 : Sta Z h0 "java/util/ArrayList" "DEFAULTCAPACITY_EMPTY_ELEMENTDATA" "[Ljava/lang/Object;" (.ref dce)) (hn : ((p0 &&& (7 : Int32)) % (5 : Int32)) = (2 : Int32)) :
    MetFree l x (head1 (Jvm.Cond.code x code maxLocals ret :: ws) room_1) (fun a U => a = #[(.int p0), (.int p1), (.int p2), (.int p3), (.int p4), (.int p5)] ∧ Z.Warmed39 U.vm ∧ U.heap = h0) (fun _ _ _ _ _ => True) (fun _ U o U' => ∃ v L, o = .returned v ∧ QL n0 v U'.heap L ∧ ReturnedEndW U o U' L room_1.cells room_1.slots) := by
  refine MetFree.of_bodySF (plainFor_of_name law2_pn) hisR ?_
  intro p e s m args below meth c s₁ Bd hml0 hP hK
  obtain ⟨rfl, hZ, hh⟩ := hP
  have hx := Bd.exec
  have hby := Bd.bytes
  have hml : c.maxLocals = 17 := hml0
  have hown : s.vm.findClass "com/example/termwright/termwright/DocumentNumbersSegmentOfPinLaw" = some m.cls := findClass_of_methodNamed Bd.named
  have hnm := (name_of_methodNamed Bd.named Bd.method).1
  have X0 : Stand p l e room_1 s m #[(.int p0), (.int p1), (.int p2), (.int p3), (.int p4), (.int p5)] below meth c s₁ [] 0 0 := Stand.of_body Bd
  have e0 : s₁.heap = h0 := by rw [← hh, Bd.state]; rfl
  have N0 := Fr.nil n0
  have hstr : ∀ d ∈ Bundle.stringAtoms, d.before a0 Z = true := by
    intro d hd
    simp only [Bundle.stringAtoms, List.mem_cons, List.not_mem_nil, or_false] at hd
    rcases hd with rfl | rfl | rfl | rfl | rfl | rfl | rfl
    · exact (hw _ (gw 61 rfl))
    · exact (hw _ (gw 62 rfl))
    · exact (hw _ (gw 63 rfl))
    · exact (hw _ (gw 64 rfl))
    · exact (hw _ (gw 65 rfl))
    · exact (hw _ (gw 66 rfl))
    · exact (hw _ (gw 67 rfl))
  obtain ⟨P0, hP0⟩ : ∃ P0 : State → Prop, P0 = fun t => Steps p.tables e below (s₁.setTop (entryFrame m #[(.int p0), (.int p1), (.int p2), (.int p3), (.int p4), (.int p5)] maxLocals)) t := ⟨_, rfl⟩
  have K0 : ∀ t, Steps p.tables e below (s₁.setTop (mkF m 0 #[.val (.int p0), .val (.int p1), .val (.int p2), .val (.int p3), .val (.int p4), .val (.int p5), .unset, .unset, .unset, .unset, .unset, .unset, .unset, .unset, .unset, .unset, .unset] [])) t → P0 t := by
    intro t k; rw [hP0]; exact castTop (law2_ef m p0 p1 p2 p3 p4 p5) k
  have K1 : ∀ t, Steps p.tables e below (s₁.setTop (mkF m 8 #[.val (.int p0), .val (.int p1), .val (.int p2), .val (.int p3), .val (.int p4), .val (.int p5), .val (.int ((p0 &&& (7 : Int32)) % (5 : Int32))), .unset, .unset, .unset, .unset, .unset, .unset, .unset, .unset, .unset, .unset] [])) t → P0 t := by
    intro t kt
    refine K0 t ?_
    refine XS.iloadN X0.here hx rfl (hb hby at_0) rfl ?_
    refine XS.bipush X0.here hx rfl (hb hby at_1) ?_
    show Steps p.tables e below (s₁.setTop (mkF m 3 #[.val (.int p0), .val (.int p1), .val (.int p2), .val (.int p3), .val (.int p4), .val (.int p5), .unset, .unset, .unset, .unset, .unset, .unset, .unset, .unset, .unset, .unset, .unset] [(.int (7 : Int32)), (.int p0)])) t
    refine XS.iand X0.here hx rfl (hb hby at_3) rfl ?_
    refine XS.iconst X0.here hx rfl (hb hby at_4) ?_
    show Steps p.tables e below (s₁.setTop (mkF m 5 #[.val (.int p0), .val (.int p1), .val (.int p2), .val (.int p3), .val (.int p4), .val (.int p5), .unset, .unset, .unset, .unset, .unset, .unset, .unset, .unset, .unset, .unset, .unset] [(.int (5 : Int32)), (.int (p0 &&& (7 : Int32)))])) t
    refine iremM X0 hx rfl (hb hby at_5) rfl (by decide) ?_
    show Steps p.tables e below (s₁.setTop (mkF m 6 #[.val (.int p0), .val (.int p1), .val (.int p2), .val (.int p3), .val (.int p4), .val (.int p5), .unset, .unset, .unset, .unset, .unset, .unset, .unset, .unset, .unset, .unset, .unset] [(.int ((p0 &&& (7 : Int32)) % (5 : Int32)))])) t
    refine XS.istore X0.here hx rfl (hb hby at_6) rfl (l' := #[.val (.int p0), .val (.int p1), .val (.int p2), .val (.int p3), .val (.int p4), .val (.int p5), .val (.int ((p0 &&& (7 : Int32)) % (5 : Int32))), .unset, .unset, .unset, .unset, .unset, .unset, .unset, .unset, .unset, .unset]) rfl ?_
    exact kt
  obtain ⟨v6, hv6, K2⟩ : ∃ v6 : Int32, v6 = ((p0 &&& (7 : Int32)) % (5 : Int32)) ∧ ∀ t, Steps p.tables e below (s₁.setTop (mkF m 8 #[.val (.int p0), .val (.int p1), .val (.int p2), .val (.int p3), .val (.int p4), .val (.int p5), .val (.int v6), .unset, .unset, .unset, .unset, .unset, .unset, .unset, .unset, .unset, .unset] [])) t → P0 t := ⟨_, rfl, K1⟩
  have K3 : ∀ t, Steps p.tables e below (s₁.setTop (mkF m 14 #[.val (.int p0), .val (.int p1), .val (.int p2), .val (.int p3), .val (.int p4), .val (.int p5), .val (.int v6), .val (.int (p1 &&& (536870911 : Int32))), .unset, .unset, .unset, .unset, .unset, .unset, .unset, .unset, .unset] [])) t → P0 t := by
    intro t kt
    refine K2 t ?_
    refine XS.iloadN X0.here hx rfl (hb hby at_8) rfl ?_
    show Steps p.tables e below (s₁.setTop (mkF m 9 #[.val (.int p0), .val (.int p1), .val (.int p2), .val (.int p3), .val (.int p4), .val (.int p5), .val (.int v6), .unset, .unset, .unset, .unset, .unset, .unset, .unset, .unset, .unset, .unset] [(.int p1)])) t
    refine X0.ldcInt hx hown (mvT hZ (hw _ (gw 0 rfl))) (g := (mkF m 9 #[.val (.int p0), .val (.int p1), .val (.int p2), .val (.int p3), .val (.int p4), .val (.int p5), .val (.int v6), .unset, .unset, .unset, .unset, .unset, .unset, .unset, .unset, .unset, .unset] [(.int p1)])) rfl (hb hby at_9) _ ?_
    show Steps p.tables e below (s₁.setTop (mkF m 11 #[.val (.int p0), .val (.int p1), .val (.int p2), .val (.int p3), .val (.int p4), .val (.int p5), .val (.int v6), .unset, .unset, .unset, .unset, .unset, .unset, .unset, .unset, .unset, .unset] [(.int (536870911 : Int32)), (.int p1)])) t
    refine XS.iand X0.here hx rfl (hb hby at_11) rfl ?_
    show Steps p.tables e below (s₁.setTop (mkF m 12 #[.val (.int p0), .val (.int p1), .val (.int p2), .val (.int p3), .val (.int p4), .val (.int p5), .val (.int v6), .unset, .unset, .unset, .unset, .unset, .unset, .unset, .unset, .unset, .unset] [(.int (p1 &&& (536870911 : Int32)))])) t
    refine XS.istore X0.here hx rfl (hb hby at_12) rfl (l' := #[.val (.int p0), .val (.int p1), .val (.int p2), .val (.int p3), .val (.int p4), .val (.int p5), .val (.int v6), .val (.int (p1 &&& (536870911 : Int32))), .unset, .unset, .unset, .unset, .unset, .unset, .unset, .unset, .unset]) rfl ?_
    exact kt
  obtain ⟨v12, hv12, K4⟩ : ∃ v12 : Int32, v12 = (p1 &&& (536870911 : Int32)) ∧ ∀ t, Steps p.tables e below (s₁.setTop (mkF m 14 #[.val (.int p0), .val (.int p1), .val (.int p2), .val (.int p3), .val (.int p4), .val (.int p5), .val (.int v6), .val (.int v12), .unset, .unset, .unset, .unset, .unset, .unset, .unset, .unset, .unset] [])) t → P0 t := ⟨_, rfl, K3⟩
  have K5 : ∀ t, Steps p.tables e below (s₁.setTop (mkF m 20 #[.val (.int p0), .val (.int p1), .val (.int p2), .val (.int p3), .val (.int p4), .val (.int p5), .val (.int v6), .val (.int v12), .val (.int (p2 &&& (536870911 : Int32))), .unset, .unset, .unset, .unset, .unset, .unset, .unset, .unset] [])) t → P0 t := by
    intro t kt
    refine K4 t ?_
    refine XS.iloadN X0.here hx rfl (hb hby at_14) rfl ?_
    show Steps p.tables e below (s₁.setTop (mkF m 15 #[.val (.int p0), .val (.int p1), .val (.int p2), .val (.int p3), .val (.int p4), .val (.int p5), .val (.int v6), .val (.int v12), .unset, .unset, .unset, .unset, .unset, .unset, .unset, .unset, .unset] [(.int p2)])) t
    refine X0.ldcInt hx hown (mvT hZ (hw _ (gw 0 rfl))) (g := (mkF m 15 #[.val (.int p0), .val (.int p1), .val (.int p2), .val (.int p3), .val (.int p4), .val (.int p5), .val (.int v6), .val (.int v12), .unset, .unset, .unset, .unset, .unset, .unset, .unset, .unset, .unset] [(.int p2)])) rfl (hb hby at_15) _ ?_
    show Steps p.tables e below (s₁.setTop (mkF m 17 #[.val (.int p0), .val (.int p1), .val (.int p2), .val (.int p3), .val (.int p4), .val (.int p5), .val (.int v6), .val (.int v12), .unset, .unset, .unset, .unset, .unset, .unset, .unset, .unset, .unset] [(.int (536870911 : Int32)), (.int p2)])) t
    refine XS.iand X0.here hx rfl (hb hby at_17) rfl ?_
    show Steps p.tables e below (s₁.setTop (mkF m 18 #[.val (.int p0), .val (.int p1), .val (.int p2), .val (.int p3), .val (.int p4), .val (.int p5), .val (.int v6), .val (.int v12), .unset, .unset, .unset, .unset, .unset, .unset, .unset, .unset, .unset] [(.int (p2 &&& (536870911 : Int32)))])) t
    refine XS.istore X0.here hx rfl (hb hby at_18) rfl (l' := #[.val (.int p0), .val (.int p1), .val (.int p2), .val (.int p3), .val (.int p4), .val (.int p5), .val (.int v6), .val (.int v12), .val (.int (p2 &&& (536870911 : Int32))), .unset, .unset, .unset, .unset, .unset, .unset, .unset, .unset]) rfl ?_
    exact kt
  obtain ⟨v18, hv18, K6⟩ : ∃ v18 : Int32, v18 = (p2 &&& (536870911 : Int32)) ∧ ∀ t, Steps p.tables e below (s₁.setTop (mkF m 20 #[.val (.int p0), .val (.int p1), .val (.int p2), .val (.int p3), .val (.int p4), .val (.int p5), .val (.int v6), .val (.int v12), .val (.int v18), .unset, .unset, .unset, .unset, .unset, .unset, .unset, .unset] [])) t → P0 t := ⟨_, rfl, K5⟩
  have K7 : ∀ t, Steps p.tables e below (s₁.setTop (mkF m 26 #[.val (.int p0), .val (.int p1), .val (.int p2), .val (.int p3), .val (.int p4), .val (.int p5), .val (.int v6), .val (.int v12), .val (.int v18), .val (.int (p3 &&& (536870911 : Int32))), .unset, .unset, .unset, .unset, .unset, .unset, .unset] [])) t → P0 t := by
    intro t kt
    refine K6 t ?_
    refine XS.iloadN X0.here hx rfl (hb hby at_20) rfl ?_
    show Steps p.tables e below (s₁.setTop (mkF m 21 #[.val (.int p0), .val (.int p1), .val (.int p2), .val (.int p3), .val (.int p4), .val (.int p5), .val (.int v6), .val (.int v12), .val (.int v18), .unset, .unset, .unset, .unset, .unset, .unset, .unset, .unset] [(.int p3)])) t
    refine X0.ldcInt hx hown (mvT hZ (hw _ (gw 0 rfl))) (g := (mkF m 21 #[.val (.int p0), .val (.int p1), .val (.int p2), .val (.int p3), .val (.int p4), .val (.int p5), .val (.int v6), .val (.int v12), .val (.int v18), .unset, .unset, .unset, .unset, .unset, .unset, .unset, .unset] [(.int p3)])) rfl (hb hby at_21) _ ?_
    show Steps p.tables e below (s₁.setTop (mkF m 23 #[.val (.int p0), .val (.int p1), .val (.int p2), .val (.int p3), .val (.int p4), .val (.int p5), .val (.int v6), .val (.int v12), .val (.int v18), .unset, .unset, .unset, .unset, .unset, .unset, .unset, .unset] [(.int (536870911 : Int32)), (.int p3)])) t
    refine XS.iand X0.here hx rfl (hb hby at_23) rfl ?_
    show Steps p.tables e below (s₁.setTop (mkF m 24 #[.val (.int p0), .val (.int p1), .val (.int p2), .val (.int p3), .val (.int p4), .val (.int p5), .val (.int v6), .val (.int v12), .val (.int v18), .unset, .unset, .unset, .unset, .unset, .unset, .unset, .unset] [(.int (p3 &&& (536870911 : Int32)))])) t
    refine XS.istore X0.here hx rfl (hb hby at_24) rfl (l' := #[.val (.int p0), .val (.int p1), .val (.int p2), .val (.int p3), .val (.int p4), .val (.int p5), .val (.int v6), .val (.int v12), .val (.int v18), .val (.int (p3 &&& (536870911 : Int32))), .unset, .unset, .unset, .unset, .unset, .unset, .unset]) rfl ?_
    exact kt
  obtain ⟨v24, hv24, K8⟩ : ∃ v24 : Int32, v24 = (p3 &&& (536870911 : Int32)) ∧ ∀ t, Steps p.tables e below (s₁.setTop (mkF m 26 #[.val (.int p0), .val (.int p1), .val (.int p2), .val (.int p3), .val (.int p4), .val (.int p5), .val (.int v6), .val (.int v12), .val (.int v18), .val (.int v24), .unset, .unset, .unset, .unset, .unset, .unset, .unset] [])) t → P0 t := ⟨_, rfl, K7⟩
  have K9 : ∀ t, Steps p.tables e below (s₁.setTop (mkF m 33 #[.val (.int p0), .val (.int p1), .val (.int p2), .val (.int p3), .val (.int p4), .val (.int p5), .val (.int v6), .val (.int v12), .val (.int v18), .val (.int v24), .val (.int (p4 &&& (536870911 : Int32))), .unset, .unset, .unset, .unset, .unset, .unset] [])) t → P0 t := by
    intro t kt
    refine K8 t ?_
    refine XS.iload X0.here hx rfl (hb hby at_26) rfl ?_
    show Steps p.tables e below (s₁.setTop (mkF m 28 #[.val (.int p0), .val (.int p1), .val (.int p2), .val (.int p3), .val (.int p4), .val (.int p5), .val (.int v6), .val (.int v12), .val (.int v18), .val (.int v24), .unset, .unset, .unset, .unset, .unset, .unset, .unset] [(.int p4)])) t
    refine X0.ldcInt hx hown (mvT hZ (hw _ (gw 0 rfl))) (g := (mkF m 28 #[.val (.int p0), .val (.int p1), .val (.int p2), .val (.int p3), .val (.int p4), .val (.int p5), .val (.int v6), .val (.int v12), .val (.int v18), .val (.int v24), .unset, .unset, .unset, .unset, .unset, .unset, .unset] [(.int p4)])) rfl (hb hby at_28) _ ?_
    show Steps p.tables e below (s₁.setTop (mkF m 30 #[.val (.int p0), .val (.int p1), .val (.int p2), .val (.int p3), .val (.int p4), .val (.int p5), .val (.int v6), .val (.int v12), .val (.int v18), .val (.int v24), .unset, .unset, .unset, .unset, .unset, .unset, .unset] [(.int (536870911 : Int32)), (.int p4)])) t
    refine XS.iand X0.here hx rfl (hb hby at_30) rfl ?_
    show Steps p.tables e below (s₁.setTop (mkF m 31 #[.val (.int p0), .val (.int p1), .val (.int p2), .val (.int p3), .val (.int p4), .val (.int p5), .val (.int v6), .val (.int v12), .val (.int v18), .val (.int v24), .unset, .unset, .unset, .unset, .unset, .unset, .unset] [(.int (p4 &&& (536870911 : Int32)))])) t
    refine XS.istore X0.here hx rfl (hb hby at_31) rfl (l' := #[.val (.int p0), .val (.int p1), .val (.int p2), .val (.int p3), .val (.int p4), .val (.int p5), .val (.int v6), .val (.int v12), .val (.int v18), .val (.int v24), .val (.int (p4 &&& (536870911 : Int32))), .unset, .unset, .unset, .unset, .unset, .unset]) rfl ?_
    exact kt
  obtain ⟨v31, hv31, K10⟩ : ∃ v31 : Int32, v31 = (p4 &&& (536870911 : Int32)) ∧ ∀ t, Steps p.tables e below (s₁.setTop (mkF m 33 #[.val (.int p0), .val (.int p1), .val (.int p2), .val (.int p3), .val (.int p4), .val (.int p5), .val (.int v6), .val (.int v12), .val (.int v18), .val (.int v24), .val (.int v31), .unset, .unset, .unset, .unset, .unset, .unset] [])) t → P0 t := ⟨_, rfl, K9⟩
  obtain ⟨T11, h11, X11, e11, E11, A11, D11, -, st11⟩ := newO X0 hx hZ hown (hw _ (gw 1 rfl)) (hw _ (gw 2 rfl)) (hw _ (gw 3 rfl)) e0 (g := (mkF m 33 #[.val (.int p0), .val (.int p1), .val (.int p2), .val (.int p3), .val (.int p4), .val (.int p5), .val (.int v6), .val (.int v12), .val (.int v18), .val (.int v24), .val (.int v31), .unset, .unset, .unset, .unset, .unset, .unset] [])) rfl (hb hby at_33) (by decide) (by decide)
  obtain ⟨b33, g11⟩ : ∃ z, z = h0.size := ⟨_, rfl⟩
  have g_b33 : n0 ≤ b33 := Nat.le_trans Z0 (Nat.le_of_eq g11.symm)
  have ne_dce_b33 : dce ≠ b33 := Nat.ne_of_lt (Nat.lt_of_lt_of_le H0.lt (Nat.le_of_eq g11.symm))
  rw [← g11] at A11 D11 st11
  have Z11 : n0 ≤ h11.size := Nat.le_trans Z0 E11.1
  have F12 := H0.ext E11
  have F13 := Sta.ext E11 H1
  have F14 : Fld Z h11 b33 "java/util/AbstractList" "modCount" "I" (.int (0 : Int32)) := D11 (Or.inl (hw _ (gw 23 rfl))) (ty := .int) (by decide)
  have F15 : Fld Z h11 b33 "java/util/ArrayList" "elementData" "[Ljava/lang/Object;" .null := D11 (Or.inl (hw _ (gw 26 rfl))) (ty := (.array (.object "java/lang/Object"))) (by decide)
  have F16 : Fld Z h11 b33 "java/util/ArrayList" "size" "I" (.int (0 : Int32)) := D11 (Or.inl (hw _ (gw 44 rfl))) (ty := .int) (by decide)
  obtain ⟨_, _, ⟨T17, L17, k17, n17⟩, -, X17, ⟨Lc17, hQ17, l17, y17, z17⟩, st17⟩ := X11.specialBack hx (y := (⟨"java/util/ArrayList", "<init>", "()V"⟩ : MethodName)) rfl hown (mvT hZ (hw _ (gw 4 rfl))) (mvT hZ (hw _ (gw 5 rfl))) (mvT hZ (hw _ (gw 6 rfl))) (by decide) (backOf (W := 1) (rm_ali l Z a0 hw [] b33 _ _ (0 : Int32) dce h11 n0 Z11 A11 F14 F15 F16 F13 g_b33) hZ (hw _ (gw 6 rfl)) (hw _ (gw 3 rfl)) (by decide) (by decide)) (g := (mkF m 37 #[.val (.int p0), .val (.int p1), .val (.int p2), .val (.int p3), .val (.int p4), .val (.int p5), .val (.int v6), .val (.int v12), .val (.int v18), .val (.int v24), .val (.int v31), .unset, .unset, .unset, .unset, .unset, .unset] [(.ref b33), (.ref b33)])) rfl (by rw [hml]; rfl) (Steps.refl _) (a := b33) (argsL := []) (rest := [(.ref b33)]) (lenOf law2_pd0 rfl) rfl (by show 2 * 0 + _ ≤ _; exact Nat.le_of_eq rfl) (hb hby at_37) (fun _ _ => ⟨rfl, e11, (by decide : 1 + 0 ≤ _), (by decide : 3 + 0 ≤ _)⟩)
  dsimp only [Pt.U, Pt.locs, Pt.cells, Pt.slots] at X17 l17 y17 z17 st17 hQ17
  rw [l17, y17, z17] at X17
  obtain ⟨h17, e17⟩ : ∃ z, T17.heap = z := ⟨_, rfl⟩
  rw [e17] at hQ17
  obtain ⟨rfl, N17q, Kq17, F18, F19, F20, F21⟩ := hQ17
  have N17 := Fr.app N0 N17q
  have Z17 : n0 ≤ h17.size := Nat.le_trans Z11 Kq17.1
  have F22 := F12.keep Kq17 (ninS ne_dce_b33 nin0)
  have F23 := own_keepS F13 Kq17 (allS (own_plE A11) all0)
  obtain ⟨T24, h24, X24, e24, E24, A24, D24, -, st24⟩ := newO X17 hx hZ hown (hw _ (gw 57 rfl)) (hw _ (gw 58 rfl)) (hw _ (gw 59 rfl)) e17 (g := (mkF m 49 #[.val (.int p0), .val (.int p1), .val (.int p2), .val (.int p3), .val (.int p4), .val (.int p5), .val (.int v6), .val (.int v12), .val (.int v18), .val (.int v24), .val (.int v31), .val (.ref b33), .unset, .unset, .unset, .unset, .unset] [(.ref b33)])) rfl (hb hby at_49) (by decide) (by decide)
  obtain ⟨b49, g24⟩ : ∃ z, z = h17.size := ⟨_, rfl⟩
  have g_b49 : n0 ≤ b49 := Nat.le_trans Z17 (Nat.le_of_eq g24.symm)
  have ne_dce_b49 : dce ≠ b49 := Nat.ne_of_lt (Nat.lt_of_lt_of_le F22.lt (Nat.le_of_eq g24.symm))
  have ne_b33_b49 : b33 ≠ b49 := Nat.ne_of_lt (Nat.lt_of_lt_of_le F18.lt (Nat.le_of_eq g24.symm))
  rw [← g24] at A24 D24 st24
  have Z24 : n0 ≤ h24.size := Nat.le_trans Z17 E24.1
  have F25 := F22.ext E24
  have F26 := Sta.ext E24 F23
  have F27 := Exa.ext E24 F18
  have F28 := Fld.ext E24 F19
  have F29 := Fld.ext E24 F20
  have F30 := Fld.ext E24 F21
  have F31 : Fld Z h24 b49 "com/example/termwright/termwright/Commit$Segment" "name" "Ljava/lang/String;" .null := D24 (Or.inr (hw _ (gw 81 rfl))) (ty := (.object "java/lang/String")) (by decide)
  have F32 : Fld Z h24 b49 "com/example/termwright/termwright/Commit$Segment" "documentCount" "I" (.int (0 : Int32)) := D24 (Or.inr (hw _ (gw 83 rfl))) (ty := .int) (by decide)
  have F33 : Fld Z h24 b49 "com/example/termwright/termwright/Commit$Segment" "length" "J" (.long (0 : Int64)) := D24 (Or.inr (hw _ (gw 85 rfl))) (ty := .long) (by decide)
  have F34 : Fld Z h24 b49 "com/example/termwright/termwright/Commit$Segment" "checksum" "I" (.int (0 : Int32)) := D24 (Or.inr (hw _ (gw 87 rfl))) (ty := .int) (by decide)
  have F35 : Fld Z h24 b49 "com/example/termwright/termwright/Commit$Segment" "deletions" "Lcom/example/termwright/termwright/Commit$DeletionsFile;" .null := D24 (Or.inr (hw _ (gw 89 rfl))) (ty := (.object "com/example/termwright/termwright/Commit$DeletionsFile")) (by decide)
  obtain ⟨lit53, T36, h36, k36, X36, e36, E36, hS36, hk36, hZ, hown, st36⟩ := ldcS (show Stand p l e room_1 (s.setVm s.vm) m #[(.int p0), (.int p1), (.int p2), (.int p3), (.int p4), (.int p5)] below meth c T24 _ _ _ from X24) hx hZ hown (hw _ (gw 60 rfl)) hstr e24 ((State.WarmedH.refl s).since n0) Z24 (g := (mkF m 53 #[.val (.int p0), .val (.int p1), .val (.int p2), .val (.int p3), .val (.int p4), .val (.int p5), .val (.int v6), .val (.int v12), .val (.int v18), .val (.int v24), .val (.int v31), .val (.ref b33), .unset, .unset, .unset, .unset, .unset] [(.ref b49), (.ref b49), (.ref b33)])) rfl (hb hby at_53) (n := 4) (by decide) (by decide) (by decide) (by decide)
  have Z36 : n0 ≤ h36.size := Nat.le_trans Z24 E36.1
  have F37 := F25.ext E36
  have F38 := Sta.ext E36 F26
  have F39 := Exa.ext E36 F27
  have F40 := Fld.ext E36 F28
  have F41 := Fld.ext E36 F29
  have F42 := Fld.ext E36 F30
  have F43 := Exa.ext E36 A24
  have F44 := Fld.ext E36 F31
  have F45 := Fld.ext E36 F32
  have F46 := Fld.ext E36 F33
  have F47 := Fld.ext E36 F34
  have F48 := Fld.ext E36 F35
  obtain ⟨_, _, ⟨T49, L49, k49, n49⟩, -, X49, ⟨Lc49, hQ49, l49, y49, z49⟩, st49⟩ := X36.specialBack hx (y := (⟨"com/example/termwright/termwright/Commit$Segment", "<init>", "(Ljava/lang/String;IJI)V"⟩ : MethodName)) rfl hown (mvT hZ (hw _ (gw 68 rfl))) (mvT hZ (hw _ (gw 69 rfl))) (mvT hZ (hw _ (gw 70 rfl))) (by decide) (backOf (W := 2) (rm_sgo l Z a0 hw [] b49 lit53 v12 (0 : Int64) (0 : Int32) _ _ _ _ _ h36 n0 Z36 F43 F44 F45 F46 F47 F48 g_b49) hZ (hw _ (gw 70 rfl)) (hw _ (gw 59 rfl)) (by decide) (by decide)) (g := (mkF m 59 #[.val (.int p0), .val (.int p1), .val (.int p2), .val (.int p3), .val (.int p4), .val (.int p5), .val (.int v6), .val (.int v12), .val (.int v18), .val (.int v24), .val (.int v31), .val (.ref b33), .unset, .unset, .unset, .unset, .unset] [(.int (0 : Int32)), (.long (0 : Int64)), (.int v12), (.ref lit53), (.ref b49), (.ref b49), (.ref b33)])) rfl (by rw [hml]; rfl) (Steps.refl _) (a := b49) (argsL := [(.ref lit53), (.int v12), (.long (0 : Int64)), (.int (0 : Int32))]) (rest := [(.ref b49), (.ref b33)]) (lenOf law2_pd1 rfl) rfl (by show 2 * 0 + _ ≤ _; exact Nat.le_of_eq rfl) (hb hby at_59) (fun _ _ => ⟨rfl, e36, (by decide : 4 + 0 ≤ _), (by decide : 16 + 0 ≤ _)⟩)
  dsimp only [Pt.U, Pt.locs, Pt.cells, Pt.slots] at X49 l49 y49 z49 st49 hQ49
  rw [l49, y49, z49] at X49
  obtain ⟨h49, e49⟩ : ∃ z, T49.heap = z := ⟨_, rfl⟩
  rw [e49] at hQ49
  obtain ⟨rfl, N49q, Kq49, F50, F51, F52⟩ := hQ49
  have N49 := Fr.app N17 N49q
  have Z49 : n0 ≤ h49.size := Nat.le_trans Z36 Kq49.1
  have Y49 : k36 ≤ h49.size := Nat.le_trans hk36 Kq49.1
  have F53 := F37.keep Kq49 (ninS ne_dce_b49 nin0)
  have F54 := own_keepS F38 Kq49 (allS (own_plE F43) all0)
  have F55 := F39.keep Kq49
  have F56 := F40.keep Kq49 (ninS ne_b33_b49 nin0)
  have F57 := F41.keep Kq49 (ninS ne_b33_b49 nin0)
  have F58 := F42.keep Kq49 (ninS ne_b33_b49 nin0)
  obtain ⟨cq59, kq59, q59a, q59b, q59c⟩ := isOf hZ e49 F55
  obtain ⟨_, _, ⟨T59, L59, k59, n59⟩, -, X59, ⟨Lc59, hQ59, l59, y59, z59⟩, st59⟩ := X49.virtualBack hx (y := (⟨"java/util/ArrayList", "add", "(Ljava/lang/Object;)Z"⟩ : MethodName)) (z := (⟨"java/util/ArrayList", "add", "(Ljava/lang/Object;)Z"⟩ : MethodName)) hown (mvT hZ (hw _ (gw 90 rfl))) (mvT hZ (hw _ (gw 91 rfl))) (notFace_of_selects (args := #[]) (mvT hZ (hw _ (gw 93 rfl)))) (mvT hZ (hw _ (gw 93 rfl))) (mvT hZ (hw _ (gw 92 rfl))) (by decide) (backOf (W := 0) (rm_ada l Z a0 hw [] b33 b49 (0 : Int32) dce h49 n0 Z49 F55 F56 F57 F58 F53 F54 F50 g_b33 (Ne.symm ne_dce_b33) ne_b33_b49) hZ (hw _ (gw 94 rfl)) (hw _ (gw 3 rfl)) (by decide) (by decide)) q59a q59c (g := (mkF m 62 #[.val (.int p0), .val (.int p1), .val (.int p2), .val (.int p3), .val (.int p4), .val (.int p5), .val (.int v6), .val (.int v12), .val (.int v18), .val (.int v24), .val (.int v31), .val (.ref b33), .unset, .unset, .unset, .unset, .unset] [(.ref b49), (.ref b33)])) rfl (by rw [hml]; rfl) (Steps.refl _) (argsL := [(.ref b49)]) (rest := []) (lenOf law2_pd2 rfl) rfl (by show 2 * 0 + _ ≤ _; exact Nat.le_of_eq rfl) (hb hby at_62) (fun _ _ => ⟨rfl, e49, (by decide : 4 + 1 ≤ _), (by decide : 16 + 10 ≤ _)⟩)
  dsimp only [Pt.U, Pt.locs, Pt.cells, Pt.slots] at X59 l59 y59 z59 st59 hQ59
  rw [l59, y59, z59] at X59
  obtain ⟨h59, e59⟩ : ∃ z, T59.heap = z := ⟨_, rfl⟩
  rw [e59] at hQ59
  obtain ⟨ed, rfl, N59q, Kq59, gs_ed, F60, F61, F62, F63, F64⟩ := hQ59
  have N59 := Fr.app N49 N59q
  have g_ed : n0 ≤ ed := Nat.le_trans Z49 gs_ed
  have ne_dce_ed : dce ≠ ed := Nat.ne_of_lt (Nat.lt_of_lt_of_le F53.lt gs_ed)
  have ne_b33_ed : b33 ≠ ed := Nat.ne_of_lt (Nat.lt_of_lt_of_le F55.lt gs_ed)
  have ne_b49_ed : b49 ≠ ed := Nat.ne_of_lt (Nat.lt_of_lt_of_le F50.lt gs_ed)
  have Z59 : n0 ≤ h59.size := Nat.le_trans Z49 Kq59.1
  have Y59 : k36 ≤ h59.size := Nat.le_trans Y49 Kq59.1
  have F65 := F53.keep Kq59 (ninS ne_dce_b33 nin0)
  have F66 := own_keepS F54 Kq59 (allS (own_plE F55) all0)
  have F67 := F50.keep Kq59
  have F68 := F51.keep Kq59 (ninS (Ne.symm ne_b33_b49) nin0)
  have F69 := F52.keep Kq59 (ninS (Ne.symm ne_b33_b49) nin0)
  obtain ⟨T70, h70, X70, e70, E70, A70, D70, -, st70⟩ := newO X59 hx hZ hown (hw _ (gw 57 rfl)) (hw _ (gw 58 rfl)) (hw _ (gw 59 rfl)) e59 (g := (mkF m 74 #[.val (.int p0), .val (.int p1), .val (.int p2), .val (.int p3), .val (.int p4), .val (.int p5), .val (.int v6), .val (.int v12), .val (.int v18), .val (.int v24), .val (.int v31), .val (.ref b33), .unset, .unset, .unset, .unset, .unset] [(.ref b33)])) rfl (hb hby at_74) (by decide) (by decide)
  obtain ⟨b74, g70⟩ : ∃ z, z = h59.size := ⟨_, rfl⟩
  have g_b74 : n0 ≤ b74 := Nat.le_trans Z59 (Nat.le_of_eq g70.symm)
  have ne_dce_b74 : dce ≠ b74 := Nat.ne_of_lt (Nat.lt_of_lt_of_le F65.lt (Nat.le_of_eq g70.symm))
  have ne_b33_b74 : b33 ≠ b74 := Nat.ne_of_lt (Nat.lt_of_lt_of_le F60.lt (Nat.le_of_eq g70.symm))
  have ne_b49_b74 : b49 ≠ b74 := Nat.ne_of_lt (Nat.lt_of_lt_of_le F67.lt (Nat.le_of_eq g70.symm))
  have ne_ed_b74 : ed ≠ b74 := Nat.ne_of_lt (Nat.lt_of_lt_of_le F64.lt (Nat.le_of_eq g70.symm))
  rw [← g70] at A70 D70 st70
  have Z70 : n0 ≤ h70.size := Nat.le_trans Z59 E70.1
  have Y70 : k36 ≤ h70.size := Nat.le_trans Y59 E70.1
  have F71 := F65.ext E70
  have F72 := Sta.ext E70 F66
  have F73 := Exa.ext E70 F60
  have F74 := Fld.ext E70 F61
  have F75 := Fld.ext E70 F62
  have F76 := Fld.ext E70 F63
  have F77 := Exa.ext E70 F67
  have F78 := Fld.ext E70 F68
  have F79 := Fld.ext E70 F69
  have F80 := F64.ext E70
  have F81 : Fld Z h70 b74 "com/example/termwright/termwright/Commit$Segment" "name" "Ljava/lang/String;" .null := D70 (Or.inr (hw _ (gw 81 rfl))) (ty := (.object "java/lang/String")) (by decide)
  have F82 : Fld Z h70 b74 "com/example/termwright/termwright/Commit$Segment" "documentCount" "I" (.int (0 : Int32)) := D70 (Or.inr (hw _ (gw 83 rfl))) (ty := .int) (by decide)
  have F83 : Fld Z h70 b74 "com/example/termwright/termwright/Commit$Segment" "length" "J" (.long (0 : Int64)) := D70 (Or.inr (hw _ (gw 85 rfl))) (ty := .long) (by decide)
  have F84 : Fld Z h70 b74 "com/example/termwright/termwright/Commit$Segment" "checksum" "I" (.int (0 : Int32)) := D70 (Or.inr (hw _ (gw 87 rfl))) (ty := .int) (by decide)
  have F85 : Fld Z h70 b74 "com/example/termwright/termwright/Commit$Segment" "deletions" "Lcom/example/termwright/termwright/Commit$DeletionsFile;" .null := D70 (Or.inr (hw _ (gw 89 rfl))) (ty := (.object "com/example/termwright/termwright/Commit$DeletionsFile")) (by decide)
  obtain ⟨lit78, T86, h86, k86, X86, e86, E86, hS86, hk86, hZ, hown, st86⟩ := ldcS X70 hx hZ hown (hw _ (gw 60 rfl)) hstr e70 hS36 Y70 (g := (mkF m 78 #[.val (.int p0), .val (.int p1), .val (.int p2), .val (.int p3), .val (.int p4), .val (.int p5), .val (.int v6), .val (.int v12), .val (.int v18), .val (.int v24), .val (.int v31), .val (.ref b33), .unset, .unset, .unset, .unset, .unset] [(.ref b74), (.ref b74), (.ref b33)])) rfl (hb hby at_78) (n := 4) (by decide) (by decide) (by decide) (by decide)
  have Z86 : n0 ≤ h86.size := Nat.le_trans Z70 E86.1
  have F87 := F71.ext E86
  have F88 := Sta.ext E86 F72
  have F89 := Exa.ext E86 F73
  have F90 := Fld.ext E86 F74
  have F91 := Fld.ext E86 F75
  have F92 := Fld.ext E86 F76
  have F93 := Exa.ext E86 F77
  have F94 := Fld.ext E86 F78
  have F95 := Fld.ext E86 F79
  have F96 := F80.ext E86
  have F97 := Exa.ext E86 A70
  have F98 := Fld.ext E86 F81
  have F99 := Fld.ext E86 F82
  have F100 := Fld.ext E86 F83
  have F101 := Fld.ext E86 F84
  have F102 := Fld.ext E86 F85
  obtain ⟨_, _, ⟨T103, L103, k103, n103⟩, -, X103, ⟨Lc103, hQ103, l103, y103, z103⟩, st103⟩ := X86.specialBack hx (y := (⟨"com/example/termwright/termwright/Commit$Segment", "<init>", "(Ljava/lang/String;IJI)V"⟩ : MethodName)) rfl hown (mvT hZ (hw _ (gw 68 rfl))) (mvT hZ (hw _ (gw 69 rfl))) (mvT hZ (hw _ (gw 70 rfl))) (by decide) (backOf (W := 2) (rm_sgo l Z a0 hw [] b74 lit78 v18 (0 : Int64) (0 : Int32) _ _ _ _ _ h86 n0 Z86 F97 F98 F99 F100 F101 F102 g_b74) hZ (hw _ (gw 70 rfl)) (hw _ (gw 59 rfl)) (by decide) (by decide)) (g := (mkF m 84 #[.val (.int p0), .val (.int p1), .val (.int p2), .val (.int p3), .val (.int p4), .val (.int p5), .val (.int v6), .val (.int v12), .val (.int v18), .val (.int v24), .val (.int v31), .val (.ref b33), .unset, .unset, .unset, .unset, .unset] [(.int (0 : Int32)), (.long (0 : Int64)), (.int v18), (.ref lit78), (.ref b74), (.ref b74), (.ref b33)])) rfl (by rw [hml]; rfl) (Steps.refl _) (a := b74) (argsL := [(.ref lit78), (.int v18), (.long (0 : Int64)), (.int (0 : Int32))]) (rest := [(.ref b74), (.ref b33)]) (lenOf law2_pd1 rfl) rfl (by show 2 * 0 + _ ≤ _; exact Nat.le_of_eq rfl) (hb hby at_84) (fun _ _ => ⟨rfl, e86, (by decide : 8 + 0 ≤ _), (by decide : 39 + 0 ≤ _)⟩)
  dsimp only [Pt.U, Pt.locs, Pt.cells, Pt.slots] at X103 l103 y103 z103 st103 hQ103
  rw [l103, y103, z103] at X103
  obtain ⟨h103, e103⟩ : ∃ z, T103.heap = z := ⟨_, rfl⟩
  rw [e103] at hQ103
  obtain ⟨rfl, N103q, Kq103, F104, F105, F106⟩ := hQ103
  have N103 := Fr.app N59 N103q
  have Z103 : n0 ≤ h103.size := Nat.le_trans Z86 Kq103.1
  have Y103 : k86 ≤ h103.size := Nat.le_trans hk86 Kq103.1
  have F107 := F87.keep Kq103 (ninS ne_dce_b74 nin0)
  have F108 := own_keepS F88 Kq103 (allS (own_plE F97) all0)
  have F109 := F89.keep Kq103
  have F110 := F90.keep Kq103 (ninS ne_b33_b74 nin0)
  have F111 := F91.keep Kq103 (ninS ne_b33_b74 nin0)
  have F112 := F92.keep Kq103 (ninS ne_b33_b74 nin0)
  have F113 := F93.keep Kq103
  have F114 := F94.keep Kq103 (ninS ne_b49_b74 nin0)
  have F115 := F95.keep Kq103 (ninS ne_b49_b74 nin0)
  have F116 := F96.keep Kq103 (ninS ne_ed_b74 nin0)
  obtain ⟨cq117, kq117, q117a, q117b, q117c⟩ := isOf hZ e103 F109
  obtain ⟨_, _, ⟨T117, L117, k117, n117⟩, -, X117, ⟨Lc117, hQ117, l117, y117, z117⟩, st117⟩ := X103.virtualBack hx (y := (⟨"java/util/ArrayList", "add", "(Ljava/lang/Object;)Z"⟩ : MethodName)) (z := (⟨"java/util/ArrayList", "add", "(Ljava/lang/Object;)Z"⟩ : MethodName)) hown (mvT hZ (hw _ (gw 90 rfl))) (mvT hZ (hw _ (gw 91 rfl))) (notFace_of_selects (args := #[]) (mvT hZ (hw _ (gw 93 rfl)))) (mvT hZ (hw _ (gw 93 rfl))) (mvT hZ (hw _ (gw 92 rfl))) (by decide) (backOf (W := 0) (rm_adb l Z a0 hw [] b33 b74 (1 : Int32) ed ((0 : Int32) + (1 : Int32)) (2 : Int32) (updV (fun _ => .null) 0 (.ref b49)) 1 h103 n0 Z103 F109 F110 F111 F112 F116 F104 g_b33 g_ed ne_b33_ed ne_b33_b74 ne_ed_b74 (by decide) (by decide) (by decide) (by decide) (by decide)) hZ (hw _ (gw 94 rfl)) (hw _ (gw 3 rfl)) (by decide) (by decide)) q117a q117c (g := (mkF m 87 #[.val (.int p0), .val (.int p1), .val (.int p2), .val (.int p3), .val (.int p4), .val (.int p5), .val (.int v6), .val (.int v12), .val (.int v18), .val (.int v24), .val (.int v31), .val (.ref b33), .unset, .unset, .unset, .unset, .unset] [(.ref b74), (.ref b33)])) rfl (by rw [hml]; rfl) (Steps.refl _) (argsL := [(.ref b74)]) (rest := []) (lenOf law2_pd2 rfl) rfl (by show 2 * 0 + _ ≤ _; exact Nat.le_of_eq rfl) (hb hby at_87) (fun _ _ => ⟨rfl, e103, (by decide : 8 + 0 ≤ _), (by decide : 39 + 0 ≤ _)⟩)
  dsimp only [Pt.U, Pt.locs, Pt.cells, Pt.slots] at X117 l117 y117 z117 st117 hQ117
  rw [l117, y117, z117] at X117
  obtain ⟨h117, e117⟩ : ∃ z, T117.heap = z := ⟨_, rfl⟩
  rw [e117] at hQ117
  obtain ⟨rfl, N117q, Kq117, F118, F119, F120, F121, F122⟩ := hQ117
  have N117 := Fr.app N103 N117q
  have Z117 : n0 ≤ h117.size := Nat.le_trans Z103 Kq117.1
  have Y117 : k86 ≤ h117.size := Nat.le_trans Y103 Kq117.1
  have F123 := F107.keep Kq117 (ninS ne_dce_b33 (ninS ne_dce_ed nin0))
  have F124 := own_keepS F108 Kq117 (allS (own_plE F109) (allS (own_plR F116) all0))
  have F125 := F113.keep Kq117
  have F126 := F114.keep Kq117 (ninS (Ne.symm ne_b33_b49) (ninS ne_b49_ed nin0))
  have F127 := F115.keep Kq117 (ninS (Ne.symm ne_b33_b49) (ninS ne_b49_ed nin0))
  have F128 := F104.keep Kq117
  have F129 := F105.keep Kq117 (ninS (Ne.symm ne_b33_b74) (ninS (Ne.symm ne_ed_b74) nin0))
  have F130 := F106.keep Kq117 (ninS (Ne.symm ne_b33_b74) (ninS (Ne.symm ne_ed_b74) nin0))
  obtain ⟨T131, h131, X131, e131, E131, A131, D131, -, st131⟩ := newO X117 hx hZ hown (hw _ (gw 27 rfl)) (hw _ (gw 28 rfl)) (hw _ (gw 29 rfl)) e117 (g := (mkF m 141 #[.val (.int p0), .val (.int p1), .val (.int p2), .val (.int p3), .val (.int p4), .val (.int p5), .val (.int v6), .val (.int v12), .val (.int v18), .val (.int v24), .val (.int v31), .val (.ref b33), .unset, .unset, .unset, .unset, .unset] [])) rfl (hb hby at_141) (by decide) (by decide)
  obtain ⟨b141, g131⟩ : ∃ z, z = h117.size := ⟨_, rfl⟩
  have g_b141 : n0 ≤ b141 := Nat.le_trans Z117 (Nat.le_of_eq g131.symm)
  have ne_dce_b141 : dce ≠ b141 := Nat.ne_of_lt (Nat.lt_of_lt_of_le F123.lt (Nat.le_of_eq g131.symm))
  have ne_b33_b141 : b33 ≠ b141 := Nat.ne_of_lt (Nat.lt_of_lt_of_le F118.lt (Nat.le_of_eq g131.symm))
  have ne_b49_b141 : b49 ≠ b141 := Nat.ne_of_lt (Nat.lt_of_lt_of_le F125.lt (Nat.le_of_eq g131.symm))
  have ne_ed_b141 : ed ≠ b141 := Nat.ne_of_lt (Nat.lt_of_lt_of_le F122.lt (Nat.le_of_eq g131.symm))
  have ne_b74_b141 : b74 ≠ b141 := Nat.ne_of_lt (Nat.lt_of_lt_of_le F128.lt (Nat.le_of_eq g131.symm))
  rw [← g131] at A131 D131 st131
  have Z131 : n0 ≤ h131.size := Nat.le_trans Z117 E131.1
  have Y131 : k86 ≤ h131.size := Nat.le_trans Y117 E131.1
  have F132 := F123.ext E131
  have F133 := Sta.ext E131 F124
  have F134 := Exa.ext E131 F118
  have F135 := Fld.ext E131 F119
  have F136 := Fld.ext E131 F120
  have F137 := Fld.ext E131 F121
  have F138 := Exa.ext E131 F125
  have F139 := Fld.ext E131 F126
  have F140 := Fld.ext E131 F127
  have F141 := F122.ext E131
  have F142 := Exa.ext E131 F128
  have F143 := Fld.ext E131 F129
  have F144 := Fld.ext E131 F130
  have F145 : Fld Z h131 b141 "com/example/termwright/termwright/DocumentNumbers" "bases" "[I" .null := D131 (Or.inr (hw _ (gw 47 rfl))) (ty := (.array .int)) (by decide)
  have F146 : Fld Z h131 b141 "com/example/termwright/termwright/DocumentNumbers" "count" "I" (.int (0 : Int32)) := D131 (Or.inr (hw _ (gw 49 rfl))) (ty := .int) (by decide)
  have F147 : Fld Z h131 b141 "com/example/termwright/termwright/DocumentNumbers" "deletedCount" "I" (.int (0 : Int32)) := D131 (Or.inr (hw _ (gw 51 rfl))) (ty := .int) (by decide)
  obtain ⟨_, _, ⟨T148, L148, k148, n148⟩, -, X148, ⟨Lc148, hQ148, l148, y148, z148⟩, st148⟩ := X131.specialBack hx (y := (⟨"com/example/termwright/termwright/DocumentNumbers", "<init>", "(Ljava/util/List;)V"⟩ : MethodName)) rfl hown (mvT hZ (hw _ (gw 30 rfl))) (mvT hZ (hw _ (gw 31 rfl))) (mvT hZ (hw _ (gw 32 rfl))) (by decide) (backOf (W := 1) (rm_dn2 l Z a0 hw [] b141 b33 _ _ _ ed b49 b74 (updV (updV (fun _ => .null) 0 (.ref b49)) 1 (.ref b74)) v12 v18 h131 n0 Z131 A131 F145 F146 F147 F134 F137 F136 F141 F138 F139 F140 F142 F143 F144 g_b141 (Ne.symm ne_b33_b141) (Ne.symm ne_ed_b141) (Ne.symm ne_b49_b141) (Ne.symm ne_b74_b141) (by simp [updV]) (by simp [updV]) (own_no0 hv12) (own_no1 hv12 hv18)) hZ (hw _ (gw 32 rfl)) (hw _ (gw 29 rfl)) (by decide) (by decide)) (g := (mkF m 147 #[.val (.int p0), .val (.int p1), .val (.int p2), .val (.int p3), .val (.int p4), .val (.int p5), .val (.int v6), .val (.int v12), .val (.int v18), .val (.int v24), .val (.int v31), .val (.ref b33), .unset, .unset, .unset, .unset, .unset] [(.ref b33), (.ref b141), (.ref b141)])) rfl (by rw [hml]; rfl) (Steps.refl _) (a := b141) (argsL := [(.ref b33)]) (rest := [(.ref b141)]) (lenOf law2_pd3 rfl) rfl (by show 2 * 0 + _ ≤ _; exact Nat.le_of_eq rfl) (hb hby at_147) (fun _ _ => ⟨rfl, e131, (by decide : 9 + 1 ≤ _), (by decide : 42 + 2 ≤ _)⟩)
  dsimp only [Pt.U, Pt.locs, Pt.cells, Pt.slots] at X148 l148 y148 z148 st148 hQ148
  rw [l148, y148, z148] at X148
  obtain ⟨h148, e148⟩ : ∃ z, T148.heap = z := ⟨_, rfl⟩
  rw [e148] at hQ148
  obtain ⟨bb, rfl, N148q, Kq148, gs_bb, F149, F150, F151⟩ := hQ148
  have N148 := Fr.app N117 N148q
  have g_bb : n0 ≤ bb := Nat.le_trans Z131 gs_bb
  have ne_dce_bb : dce ≠ bb := Nat.ne_of_lt (Nat.lt_of_lt_of_le F132.lt gs_bb)
  have ne_b33_bb : b33 ≠ bb := Nat.ne_of_lt (Nat.lt_of_lt_of_le F134.lt gs_bb)
  have ne_b49_bb : b49 ≠ bb := Nat.ne_of_lt (Nat.lt_of_lt_of_le F138.lt gs_bb)
  have ne_ed_bb : ed ≠ bb := Nat.ne_of_lt (Nat.lt_of_lt_of_le F141.lt gs_bb)
  have ne_b74_bb : b74 ≠ bb := Nat.ne_of_lt (Nat.lt_of_lt_of_le F142.lt gs_bb)
  have ne_b141_bb : b141 ≠ bb := Nat.ne_of_lt (Nat.lt_of_lt_of_le A131.lt gs_bb)
  have Z148 : n0 ≤ h148.size := Nat.le_trans Z131 Kq148.1
  have Y148 : k86 ≤ h148.size := Nat.le_trans Y131 Kq148.1
  have F152 := F132.keep Kq148 (ninS ne_dce_b141 nin0)
  have F153 := own_keepS F133 Kq148 (allS (own_plE A131) all0)
  have F154 := F134.keep Kq148
  have F155 := F135.keep Kq148 (ninS ne_b33_b141 nin0)
  have F156 := F136.keep Kq148 (ninS ne_b33_b141 nin0)
  have F157 := F137.keep Kq148 (ninS ne_b33_b141 nin0)
  have F158 := F138.keep Kq148
  have F159 := F139.keep Kq148 (ninS ne_b49_b141 nin0)
  have F160 := F140.keep Kq148 (ninS ne_b49_b141 nin0)
  have F161 := F141.keep Kq148 (ninS ne_ed_b141 nin0)
  have F162 := F142.keep Kq148
  have F163 := F143.keep Kq148 (ninS ne_b74_b141 nin0)
  have F164 := F144.keep Kq148 (ninS ne_b74_b141 nin0)
  have K165 : ∀ t, Steps p.tables e below (T148.setTop (mkF m 163 #[.val (.int p0), .val (.int p1), .val (.int p2), .val (.int p3), .val (.int p4), .val (.int p5), .val (.int v6), .val (.int v12), .val (.int v18), .val (.int v24), .val (.int v31), .val (.ref b33), .val (.ref b141), .val (.int v12), .val (.int (v12 + v18)), .unset, .unset] [])) t → P0 t := by
    intro t kt
    refine K10 t ?_
    show Steps p.tables e below (s₁.setTop (mkF m 33 #[.val (.int p0), .val (.int p1), .val (.int p2), .val (.int p3), .val (.int p4), .val (.int p5), .val (.int v6), .val (.int v12), .val (.int v18), .val (.int v24), .val (.int v31), .unset, .unset, .unset, .unset, .unset, .unset] [])) t
    refine st11 _ ?_
    show Steps p.tables e below (T11.setTop (mkF m 36 #[.val (.int p0), .val (.int p1), .val (.int p2), .val (.int p3), .val (.int p4), .val (.int p5), .val (.int v6), .val (.int v12), .val (.int v18), .val (.int v24), .val (.int v31), .unset, .unset, .unset, .unset, .unset, .unset] [(.ref b33)])) t
    refine XS.dup X11.here hx rfl (hb hby at_36) rfl rfl ?_
    show Steps p.tables e below (T11.setTop (mkF m 37 #[.val (.int p0), .val (.int p1), .val (.int p2), .val (.int p3), .val (.int p4), .val (.int p5), .val (.int v6), .val (.int v12), .val (.int v18), .val (.int v24), .val (.int v31), .unset, .unset, .unset, .unset, .unset, .unset] [(.ref b33), (.ref b33)])) t
    refine st17.trans ?_
    show Steps p.tables e below (T17.setTop (mkF m 40 #[.val (.int p0), .val (.int p1), .val (.int p2), .val (.int p3), .val (.int p4), .val (.int p5), .val (.int v6), .val (.int v12), .val (.int v18), .val (.int v24), .val (.int v31), .unset, .unset, .unset, .unset, .unset, .unset] [(.ref b33)])) t
    refine XS.astore X17.here hx rfl (hb hby at_40) rfl rfl (l' := #[.val (.int p0), .val (.int p1), .val (.int p2), .val (.int p3), .val (.int p4), .val (.int p5), .val (.int v6), .val (.int v12), .val (.int v18), .val (.int v24), .val (.int v31), .val (.ref b33), .unset, .unset, .unset, .unset, .unset]) rfl ?_
    refine XS.iload X17.here hx rfl (hb hby at_42) rfl ?_
    show Steps p.tables e below (T17.setTop (mkF m 44 #[.val (.int p0), .val (.int p1), .val (.int p2), .val (.int p3), .val (.int p4), .val (.int p5), .val (.int v6), .val (.int v12), .val (.int v18), .val (.int v24), .val (.int v31), .val (.ref b33), .unset, .unset, .unset, .unset, .unset] [(.int v6)])) t
    refine XS.ifNo X17.here hx rfl (hb hby at_44) rfl ((if0 _ _).trans (tlt (by rw [hv6, hn]; decide)).2.2.2) ?_
    refine XS.aload X17.here hx rfl (hb hby at_47) rfl rfl ?_
    show Steps p.tables e below (T17.setTop (mkF m 49 #[.val (.int p0), .val (.int p1), .val (.int p2), .val (.int p3), .val (.int p4), .val (.int p5), .val (.int v6), .val (.int v12), .val (.int v18), .val (.int v24), .val (.int v31), .val (.ref b33), .unset, .unset, .unset, .unset, .unset] [(.ref b33)])) t
    refine st24 _ ?_
    show Steps p.tables e below (T24.setTop (mkF m 52 #[.val (.int p0), .val (.int p1), .val (.int p2), .val (.int p3), .val (.int p4), .val (.int p5), .val (.int v6), .val (.int v12), .val (.int v18), .val (.int v24), .val (.int v31), .val (.ref b33), .unset, .unset, .unset, .unset, .unset] [(.ref b49), (.ref b33)])) t
    refine XS.dup X24.here hx rfl (hb hby at_52) rfl rfl ?_
    show Steps p.tables e below (T24.setTop (mkF m 53 #[.val (.int p0), .val (.int p1), .val (.int p2), .val (.int p3), .val (.int p4), .val (.int p5), .val (.int v6), .val (.int v12), .val (.int v18), .val (.int v24), .val (.int v31), .val (.ref b33), .unset, .unset, .unset, .unset, .unset] [(.ref b49), (.ref b49), (.ref b33)])) t
    refine st36 _ ?_
    refine XS.iload X36.here hx rfl (hb hby at_55) rfl ?_
    refine XS.lconst X36.here hx rfl (hb hby at_57) ?_
    refine XS.iconst X36.here hx rfl (hb hby at_58) ?_
    show Steps p.tables e below (T36.setTop (mkF m 59 #[.val (.int p0), .val (.int p1), .val (.int p2), .val (.int p3), .val (.int p4), .val (.int p5), .val (.int v6), .val (.int v12), .val (.int v18), .val (.int v24), .val (.int v31), .val (.ref b33), .unset, .unset, .unset, .unset, .unset] [(.int (0 : Int32)), (.long (0 : Int64)), (.int v12), (.ref lit53), (.ref b49), (.ref b49), (.ref b33)])) t
    refine st49.trans ?_
    show Steps p.tables e below (T49.setTop (mkF m 62 #[.val (.int p0), .val (.int p1), .val (.int p2), .val (.int p3), .val (.int p4), .val (.int p5), .val (.int v6), .val (.int v12), .val (.int v18), .val (.int v24), .val (.int v31), .val (.ref b33), .unset, .unset, .unset, .unset, .unset] [(.ref b49), (.ref b33)])) t
    refine st59.trans ?_
    show Steps p.tables e below (T59.setTop (mkF m 65 #[.val (.int p0), .val (.int p1), .val (.int p2), .val (.int p3), .val (.int p4), .val (.int p5), .val (.int v6), .val (.int v12), .val (.int v18), .val (.int v24), .val (.int v31), .val (.ref b33), .unset, .unset, .unset, .unset, .unset] [(.int (nar .boolean (1 : Int32)))])) t
    refine XS.pop X59.here hx rfl (hb hby at_65) rfl rfl ?_
    refine XS.iload X59.here hx rfl (hb hby at_66) rfl ?_
    refine XS.iconst X59.here hx rfl (hb hby at_68) ?_
    show Steps p.tables e below (T59.setTop (mkF m 69 #[.val (.int p0), .val (.int p1), .val (.int p2), .val (.int p3), .val (.int p4), .val (.int p5), .val (.int v6), .val (.int v12), .val (.int v18), .val (.int v24), .val (.int v31), .val (.ref b33), .unset, .unset, .unset, .unset, .unset] [(.int (1 : Int32)), (.int v6)])) t
    refine XS.icmpNo X59.here hx rfl (hb hby at_69) rfl (tlt (by rw [hv6, hn]; decide)).2.2.2 ?_
    refine XS.aload X59.here hx rfl (hb hby at_72) rfl rfl ?_
    show Steps p.tables e below (T59.setTop (mkF m 74 #[.val (.int p0), .val (.int p1), .val (.int p2), .val (.int p3), .val (.int p4), .val (.int p5), .val (.int v6), .val (.int v12), .val (.int v18), .val (.int v24), .val (.int v31), .val (.ref b33), .unset, .unset, .unset, .unset, .unset] [(.ref b33)])) t
    refine st70 _ ?_
    show Steps p.tables e below (T70.setTop (mkF m 77 #[.val (.int p0), .val (.int p1), .val (.int p2), .val (.int p3), .val (.int p4), .val (.int p5), .val (.int v6), .val (.int v12), .val (.int v18), .val (.int v24), .val (.int v31), .val (.ref b33), .unset, .unset, .unset, .unset, .unset] [(.ref b74), (.ref b33)])) t
    refine XS.dup X70.here hx rfl (hb hby at_77) rfl rfl ?_
    show Steps p.tables e below (T70.setTop (mkF m 78 #[.val (.int p0), .val (.int p1), .val (.int p2), .val (.int p3), .val (.int p4), .val (.int p5), .val (.int v6), .val (.int v12), .val (.int v18), .val (.int v24), .val (.int v31), .val (.ref b33), .unset, .unset, .unset, .unset, .unset] [(.ref b74), (.ref b74), (.ref b33)])) t
    refine st86 _ ?_
    refine XS.iload X86.here hx rfl (hb hby at_80) rfl ?_
    refine XS.lconst X86.here hx rfl (hb hby at_82) ?_
    refine XS.iconst X86.here hx rfl (hb hby at_83) ?_
    show Steps p.tables e below (T86.setTop (mkF m 84 #[.val (.int p0), .val (.int p1), .val (.int p2), .val (.int p3), .val (.int p4), .val (.int p5), .val (.int v6), .val (.int v12), .val (.int v18), .val (.int v24), .val (.int v31), .val (.ref b33), .unset, .unset, .unset, .unset, .unset] [(.int (0 : Int32)), (.long (0 : Int64)), (.int v18), (.ref lit78), (.ref b74), (.ref b74), (.ref b33)])) t
    refine st103.trans ?_
    show Steps p.tables e below (T103.setTop (mkF m 87 #[.val (.int p0), .val (.int p1), .val (.int p2), .val (.int p3), .val (.int p4), .val (.int p5), .val (.int v6), .val (.int v12), .val (.int v18), .val (.int v24), .val (.int v31), .val (.ref b33), .unset, .unset, .unset, .unset, .unset] [(.ref b74), (.ref b33)])) t
    refine st117.trans ?_
    show Steps p.tables e below (T117.setTop (mkF m 90 #[.val (.int p0), .val (.int p1), .val (.int p2), .val (.int p3), .val (.int p4), .val (.int p5), .val (.int v6), .val (.int v12), .val (.int v18), .val (.int v24), .val (.int v31), .val (.ref b33), .unset, .unset, .unset, .unset, .unset] [(.int (nar .boolean (1 : Int32)))])) t
    refine XS.pop X117.here hx rfl (hb hby at_90) rfl rfl ?_
    refine XS.iload X117.here hx rfl (hb hby at_91) rfl ?_
    refine XS.iconst X117.here hx rfl (hb hby at_93) ?_
    show Steps p.tables e below (T117.setTop (mkF m 94 #[.val (.int p0), .val (.int p1), .val (.int p2), .val (.int p3), .val (.int p4), .val (.int p5), .val (.int v6), .val (.int v12), .val (.int v18), .val (.int v24), .val (.int v31), .val (.ref b33), .unset, .unset, .unset, .unset, .unset] [(.int (2 : Int32)), (.int v6)])) t
    refine XS.icmpYes X117.here hx rfl (pc0 := 94) (pc' := 116) rfl (hb hby at_94) rfl (flt (by rw [hv6, hn]; decide)).2.2.2 (by decide) (by decide) ?_
    refine XS.iload X117.here hx rfl (hb hby at_116) rfl ?_
    refine XS.iconst X117.here hx rfl (hb hby at_118) ?_
    show Steps p.tables e below (T117.setTop (mkF m 119 #[.val (.int p0), .val (.int p1), .val (.int p2), .val (.int p3), .val (.int p4), .val (.int p5), .val (.int v6), .val (.int v12), .val (.int v18), .val (.int v24), .val (.int v31), .val (.ref b33), .unset, .unset, .unset, .unset, .unset] [(.int (3 : Int32)), (.int v6)])) t
    refine XS.icmpYes X117.here hx rfl (pc0 := 119) (pc' := 141) rfl (hb hby at_119) rfl (flt (by rw [hv6, hn]; decide)).2.2.2 (by decide) (by decide) ?_
    show Steps p.tables e below (T117.setTop (mkF m 141 #[.val (.int p0), .val (.int p1), .val (.int p2), .val (.int p3), .val (.int p4), .val (.int p5), .val (.int v6), .val (.int v12), .val (.int v18), .val (.int v24), .val (.int v31), .val (.ref b33), .unset, .unset, .unset, .unset, .unset] [])) t
    refine st131 _ ?_
    show Steps p.tables e below (T131.setTop (mkF m 144 #[.val (.int p0), .val (.int p1), .val (.int p2), .val (.int p3), .val (.int p4), .val (.int p5), .val (.int v6), .val (.int v12), .val (.int v18), .val (.int v24), .val (.int v31), .val (.ref b33), .unset, .unset, .unset, .unset, .unset] [(.ref b141)])) t
    refine XS.dup X131.here hx rfl (hb hby at_144) rfl rfl ?_
    refine XS.aload X131.here hx rfl (hb hby at_145) rfl rfl ?_
    show Steps p.tables e below (T131.setTop (mkF m 147 #[.val (.int p0), .val (.int p1), .val (.int p2), .val (.int p3), .val (.int p4), .val (.int p5), .val (.int v6), .val (.int v12), .val (.int v18), .val (.int v24), .val (.int v31), .val (.ref b33), .unset, .unset, .unset, .unset, .unset] [(.ref b33), (.ref b141), (.ref b141)])) t
    refine st148.trans ?_
    show Steps p.tables e below (T148.setTop (mkF m 150 #[.val (.int p0), .val (.int p1), .val (.int p2), .val (.int p3), .val (.int p4), .val (.int p5), .val (.int v6), .val (.int v12), .val (.int v18), .val (.int v24), .val (.int v31), .val (.ref b33), .unset, .unset, .unset, .unset, .unset] [(.ref b141)])) t
    refine XS.astore X148.here hx rfl (hb hby at_150) rfl rfl (l' := #[.val (.int p0), .val (.int p1), .val (.int p2), .val (.int p3), .val (.int p4), .val (.int p5), .val (.int v6), .val (.int v12), .val (.int v18), .val (.int v24), .val (.int v31), .val (.ref b33), .val (.ref b141), .unset, .unset, .unset, .unset]) rfl ?_
    refine XS.iload X148.here hx rfl (hb hby at_152) rfl ?_
    show Steps p.tables e below (T148.setTop (mkF m 154 #[.val (.int p0), .val (.int p1), .val (.int p2), .val (.int p3), .val (.int p4), .val (.int p5), .val (.int v6), .val (.int v12), .val (.int v18), .val (.int v24), .val (.int v31), .val (.ref b33), .val (.ref b141), .unset, .unset, .unset, .unset] [(.int v12)])) t
    refine XS.istore X148.here hx rfl (hb hby at_154) rfl (l' := #[.val (.int p0), .val (.int p1), .val (.int p2), .val (.int p3), .val (.int p4), .val (.int p5), .val (.int v6), .val (.int v12), .val (.int v18), .val (.int v24), .val (.int v31), .val (.ref b33), .val (.ref b141), .val (.int v12), .unset, .unset, .unset]) rfl ?_
    refine XS.iload X148.here hx rfl (hb hby at_156) rfl ?_
    refine XS.iload X148.here hx rfl (hb hby at_158) rfl ?_
    show Steps p.tables e below (T148.setTop (mkF m 160 #[.val (.int p0), .val (.int p1), .val (.int p2), .val (.int p3), .val (.int p4), .val (.int p5), .val (.int v6), .val (.int v12), .val (.int v18), .val (.int v24), .val (.int v31), .val (.ref b33), .val (.ref b141), .val (.int v12), .unset, .unset, .unset] [(.int v18), (.int v12)])) t
    refine XS.iadd X148.here hx rfl (hb hby at_160) rfl ?_
    show Steps p.tables e below (T148.setTop (mkF m 161 #[.val (.int p0), .val (.int p1), .val (.int p2), .val (.int p3), .val (.int p4), .val (.int p5), .val (.int v6), .val (.int v12), .val (.int v18), .val (.int v24), .val (.int v31), .val (.ref b33), .val (.ref b141), .val (.int v12), .unset, .unset, .unset] [(.int (v12 + v18))])) t
    refine XS.istore X148.here hx rfl (hb hby at_161) rfl (l' := #[.val (.int p0), .val (.int p1), .val (.int p2), .val (.int p3), .val (.int p4), .val (.int p5), .val (.int v6), .val (.int v12), .val (.int v18), .val (.int v24), .val (.int v31), .val (.ref b33), .val (.ref b141), .val (.int v12), .val (.int (v12 + v18)), .unset, .unset]) rfl ?_
    exact kt
  obtain ⟨v161, hv161, K166⟩ : ∃ v161 : Int32, v161 = (v12 + v18) ∧ ∀ t, Steps p.tables e below (T148.setTop (mkF m 163 #[.val (.int p0), .val (.int p1), .val (.int p2), .val (.int p3), .val (.int p4), .val (.int p5), .val (.int v6), .val (.int v12), .val (.int v18), .val (.int v24), .val (.int v31), .val (.ref b33), .val (.ref b141), .val (.int v12), .val (.int v161), .unset, .unset] [])) t → P0 t := ⟨_, rfl, K165⟩
  have K167 : ∀ t, Steps p.tables e below (T148.setTop (mkF m 170 #[.val (.int p0), .val (.int p1), .val (.int p2), .val (.int p3), .val (.int p4), .val (.int p5), .val (.int v6), .val (.int v12), .val (.int v18), .val (.int v24), .val (.int v31), .val (.ref b33), .val (.ref b141), .val (.int v12), .val (.int v161), .val (.int (v161 + v24)), .unset] [])) t → P0 t := by
    intro t kt
    refine K166 t ?_
    refine XS.iload X148.here hx rfl (hb hby at_163) rfl ?_
    refine XS.iload X148.here hx rfl (hb hby at_165) rfl ?_
    show Steps p.tables e below (T148.setTop (mkF m 167 #[.val (.int p0), .val (.int p1), .val (.int p2), .val (.int p3), .val (.int p4), .val (.int p5), .val (.int v6), .val (.int v12), .val (.int v18), .val (.int v24), .val (.int v31), .val (.ref b33), .val (.ref b141), .val (.int v12), .val (.int v161), .unset, .unset] [(.int v24), (.int v161)])) t
    refine XS.iadd X148.here hx rfl (hb hby at_167) rfl ?_
    show Steps p.tables e below (T148.setTop (mkF m 168 #[.val (.int p0), .val (.int p1), .val (.int p2), .val (.int p3), .val (.int p4), .val (.int p5), .val (.int v6), .val (.int v12), .val (.int v18), .val (.int v24), .val (.int v31), .val (.ref b33), .val (.ref b141), .val (.int v12), .val (.int v161), .unset, .unset] [(.int (v161 + v24))])) t
    refine XS.istore X148.here hx rfl (hb hby at_168) rfl (l' := #[.val (.int p0), .val (.int p1), .val (.int p2), .val (.int p3), .val (.int p4), .val (.int p5), .val (.int v6), .val (.int v12), .val (.int v18), .val (.int v24), .val (.int v31), .val (.ref b33), .val (.ref b141), .val (.int v12), .val (.int v161), .val (.int (v161 + v24)), .unset]) rfl ?_
    exact kt
  obtain ⟨v168, hv168, K168⟩ : ∃ v168 : Int32, v168 = (v161 + v24) ∧ ∀ t, Steps p.tables e below (T148.setTop (mkF m 170 #[.val (.int p0), .val (.int p1), .val (.int p2), .val (.int p3), .val (.int p4), .val (.int p5), .val (.int v6), .val (.int v12), .val (.int v18), .val (.int v24), .val (.int v31), .val (.ref b33), .val (.ref b141), .val (.int v12), .val (.int v161), .val (.int v168), .unset] [])) t → P0 t := ⟨_, rfl, K167⟩
  have K169 : ∀ t, Steps p.tables e below (T148.setTop (mkF m 183 #[.val (.int p0), .val (.int p1), .val (.int p2), .val (.int p3), .val (.int p4), .val (.int p5), .val (.int v6), .val (.int v12), .val (.int v18), .val (.int v24), .val (.int v31), .val (.ref b33), .val (.ref b141), .val (.int v12), .val (.int v161), .val (.int v168), .val (.int (0 : Int32))] [(.int p5), (.int v12)])) t → P0 t := by
    intro t kt
    refine K168 t ?_
    refine XS.iconst X148.here hx rfl (hb hby at_170) ?_
    show Steps p.tables e below (T148.setTop (mkF m 171 #[.val (.int p0), .val (.int p1), .val (.int p2), .val (.int p3), .val (.int p4), .val (.int p5), .val (.int v6), .val (.int v12), .val (.int v18), .val (.int v24), .val (.int v31), .val (.ref b33), .val (.ref b141), .val (.int v12), .val (.int v161), .val (.int v168), .unset] [(.int (0 : Int32))])) t
    refine XS.istore X148.here hx rfl (hb hby at_171) rfl (l' := #[.val (.int p0), .val (.int p1), .val (.int p2), .val (.int p3), .val (.int p4), .val (.int p5), .val (.int v6), .val (.int v12), .val (.int v18), .val (.int v24), .val (.int v31), .val (.ref b33), .val (.ref b141), .val (.int v12), .val (.int v161), .val (.int v168), .val (.int (0 : Int32))]) rfl ?_
    refine XS.iload X148.here hx rfl (hb hby at_173) rfl ?_
    refine XS.iconst X148.here hx rfl (hb hby at_175) ?_
    show Steps p.tables e below (T148.setTop (mkF m 176 #[.val (.int p0), .val (.int p1), .val (.int p2), .val (.int p3), .val (.int p4), .val (.int p5), .val (.int v6), .val (.int v12), .val (.int v18), .val (.int v24), .val (.int v31), .val (.ref b33), .val (.ref b141), .val (.int v12), .val (.int v161), .val (.int v168), .val (.int (0 : Int32))] [(.int (1 : Int32)), (.int v6)])) t
    refine XS.icmpNo X148.here hx rfl (hb hby at_176) rfl (tlt (by rw [hv6, hn]; decide)).2.2.2 ?_
    refine XS.iload X148.here hx rfl (hb hby at_179) rfl ?_
    refine XS.iload X148.here hx rfl (hb hby at_181) rfl ?_
    exact kt
  obtain ⟨j189_16, hj189_16, K172⟩ : ∃ (j189_16 : Int32), j189_16 = (if p5 < v12 then (0 : Int32) else (1 : Int32)) ∧ ∀ t, Steps p.tables e below (T148.setTop (mkF m 189 #[.val (.int p0), .val (.int p1), .val (.int p2), .val (.int p3), .val (.int p4), .val (.int p5), .val (.int v6), .val (.int v12), .val (.int v18), .val (.int v24), .val (.int v31), .val (.ref b33), .val (.ref b141), .val (.int v12), .val (.int v161), .val (.int v168), .val (.int j189_16)] [])) t → P0 t := by
    by_cases hc183 : p5 < v12
    · have K170 : ∀ t, Steps p.tables e below (T148.setTop (mkF m 189 #[.val (.int p0), .val (.int p1), .val (.int p2), .val (.int p3), .val (.int p4), .val (.int p5), .val (.int v6), .val (.int v12), .val (.int v18), .val (.int v24), .val (.int v31), .val (.ref b33), .val (.ref b141), .val (.int v12), .val (.int v161), .val (.int v168), .val (.int (0 : Int32))] [])) t → P0 t := by
        intro t kt
        refine K169 t ?_
        refine XS.icmpYes X148.here hx rfl (pc0 := 183) (pc' := 189) rfl (hb hby at_183) rfl (tlt hc183).2.2.1 (by decide) (by decide) ?_
        exact kt
      exact ⟨_, (if_pos hc183).symm, K170⟩
    · have K171 : ∀ t, Steps p.tables e below (T148.setTop (mkF m 189 #[.val (.int p0), .val (.int p1), .val (.int p2), .val (.int p3), .val (.int p4), .val (.int p5), .val (.int v6), .val (.int v12), .val (.int v18), .val (.int v24), .val (.int v31), .val (.ref b33), .val (.ref b141), .val (.int v12), .val (.int v161), .val (.int v168), .val (.int (1 : Int32))] [])) t → P0 t := by
        intro t kt
        refine K169 t ?_
        refine XS.icmpNo X148.here hx rfl (hb hby at_183) rfl (flt hc183).2.2.1 ?_
        refine XS.iconst X148.here hx rfl (hb hby at_186) ?_
        show Steps p.tables e below (T148.setTop (mkF m 187 #[.val (.int p0), .val (.int p1), .val (.int p2), .val (.int p3), .val (.int p4), .val (.int p5), .val (.int v6), .val (.int v12), .val (.int v18), .val (.int v24), .val (.int v31), .val (.ref b33), .val (.ref b141), .val (.int v12), .val (.int v161), .val (.int v168), .val (.int (0 : Int32))] [(.int (1 : Int32))])) t
        refine XS.istore X148.here hx rfl (hb hby at_187) rfl (l' := #[.val (.int p0), .val (.int p1), .val (.int p2), .val (.int p3), .val (.int p4), .val (.int p5), .val (.int v6), .val (.int v12), .val (.int v18), .val (.int v24), .val (.int v31), .val (.ref b33), .val (.ref b141), .val (.int v12), .val (.int v161), .val (.int v168), .val (.int (1 : Int32))]) rfl ?_
        exact kt
      exact ⟨_, (if_neg hc183).symm, K171⟩
  obtain ⟨cq173, kq173, q173a, q173b, q173c⟩ := isOf hZ e148 F149
  obtain ⟨_, _, ⟨T173, L173, k173, n173⟩, -, X173, ⟨Lc173, hQ173, l173, y173, z173⟩, st173⟩ := X148.virtualBack hx (y := (⟨"com/example/termwright/termwright/DocumentNumbers", "segmentOf", "(I)I"⟩ : MethodName)) (z := (⟨"com/example/termwright/termwright/DocumentNumbers", "segmentOf", "(I)I"⟩ : MethodName)) hown (mvT hZ (hw _ (gw 52 rfl))) (mvT hZ (hw _ (gw 53 rfl))) (notFace_of_selects (args := #[]) (mvT hZ (hw _ (gw 55 rfl)))) (mvT hZ (hw _ (gw 55 rfl))) (mvT hZ (hw _ (gw 54 rfl))) (by decide) (backOf (W := 0) (rm_se2 l Z a0 hw [] b141 p5 bb (fB2 v12 v18) h148 n0 Z148 F150 F151) hZ (hw _ (gw 56 rfl)) (hw _ (gw 29 rfl)) (by decide) (by decide)) q173a q173c (g := (mkF m 225 #[.val (.int p0), .val (.int p1), .val (.int p2), .val (.int p3), .val (.int p4), .val (.int p5), .val (.int v6), .val (.int v12), .val (.int v18), .val (.int v24), .val (.int v31), .val (.ref b33), .val (.ref b141), .val (.int v12), .val (.int v161), .val (.int v168), .val (.int j189_16)] [(.int p5), (.ref b141)])) rfl (by rw [hml]; rfl) (Steps.refl _) (argsL := [(.int p5)]) (rest := []) (lenOf law2_pd4 rfl) rfl (by show 2 * 0 + _ ≤ _; exact Nat.le_of_eq rfl) (hb hby at_225) (fun _ _ => ⟨rfl, e148, (by decide : 10 + 0 ≤ _), (by decide : 44 + 0 ≤ _)⟩)
  dsimp only [Pt.U, Pt.locs, Pt.cells, Pt.slots] at X173 l173 y173 z173 st173 hQ173
  rw [l173, y173, z173] at X173
  obtain ⟨rfl, N173q, e173⟩ := hQ173
  have N173 := Fr.app N148 N173q
  have K174 : ∀ t, Steps p.tables e below (T173.setTop (mkF m 230 #[.val (.int p0), .val (.int p1), .val (.int p2), .val (.int p3), .val (.int p4), .val (.int p5), .val (.int v6), .val (.int v12), .val (.int v18), .val (.int v24), .val (.int v31), .val (.ref b33), .val (.ref b141), .val (.int v12), .val (.int v161), .val (.int v168), .val (.int j189_16)] [(.int j189_16), (.int (fSeg2 p5 (fB2 v12 v18)))])) t → P0 t := by
    intro t kt
    refine K172 t ?_
    refine XS.iload X148.here hx rfl (hb hby at_189) rfl ?_
    refine XS.iconst X148.here hx rfl (hb hby at_191) ?_
    show Steps p.tables e below (T148.setTop (mkF m 192 #[.val (.int p0), .val (.int p1), .val (.int p2), .val (.int p3), .val (.int p4), .val (.int p5), .val (.int v6), .val (.int v12), .val (.int v18), .val (.int v24), .val (.int v31), .val (.ref b33), .val (.ref b141), .val (.int v12), .val (.int v161), .val (.int v168), .val (.int j189_16)] [(.int (2 : Int32)), (.int v6)])) t
    refine XS.icmpYes X148.here hx rfl (pc0 := 192) (pc' := 205) rfl (hb hby at_192) rfl (flt (by rw [hv6, hn]; decide)).2.2.2 (by decide) (by decide) ?_
    refine XS.iload X148.here hx rfl (hb hby at_205) rfl ?_
    refine XS.iconst X148.here hx rfl (hb hby at_207) ?_
    show Steps p.tables e below (T148.setTop (mkF m 208 #[.val (.int p0), .val (.int p1), .val (.int p2), .val (.int p3), .val (.int p4), .val (.int p5), .val (.int v6), .val (.int v12), .val (.int v18), .val (.int v24), .val (.int v31), .val (.ref b33), .val (.ref b141), .val (.int v12), .val (.int v161), .val (.int v168), .val (.int j189_16)] [(.int (3 : Int32)), (.int v6)])) t
    refine XS.icmpYes X148.here hx rfl (pc0 := 208) (pc' := 221) rfl (hb hby at_208) rfl (flt (by rw [hv6, hn]; decide)).2.2.2 (by decide) (by decide) ?_
    refine XS.aload X148.here hx rfl (hb hby at_221) rfl rfl ?_
    refine XS.iload X148.here hx rfl (hb hby at_223) rfl ?_
    show Steps p.tables e below (T148.setTop (mkF m 225 #[.val (.int p0), .val (.int p1), .val (.int p2), .val (.int p3), .val (.int p4), .val (.int p5), .val (.int v6), .val (.int v12), .val (.int v18), .val (.int v24), .val (.int v31), .val (.ref b33), .val (.ref b141), .val (.int v12), .val (.int v161), .val (.int v168), .val (.int j189_16)] [(.int p5), (.ref b141)])) t
    refine st173.trans ?_
    refine XS.iload X173.here hx rfl (hb hby at_228) rfl ?_
    exact kt
  obtain ⟨j238_s0, hj238_s0, K177⟩ : ∃ (j238_s0 : Int32), j238_s0 = (if (fSeg2 p5 (fB2 v12 v18)) = j189_16 then (1 : Int32) else (0 : Int32)) ∧ ∀ t, Steps p.tables e below (T173.setTop (mkF m 238 #[.val (.int p0), .val (.int p1), .val (.int p2), .val (.int p3), .val (.int p4), .val (.int p5), .val (.int v6), .val (.int v12), .val (.int v18), .val (.int v24), .val (.int v31), .val (.ref b33), .val (.ref b141), .val (.int v12), .val (.int v161), .val (.int v168), .val (.int j189_16)] [(.int j238_s0)])) t → P0 t := by
    by_cases hc230 : (fSeg2 p5 (fB2 v12 v18)) = j189_16
    · have K175 : ∀ t, Steps p.tables e below (T173.setTop (mkF m 238 #[.val (.int p0), .val (.int p1), .val (.int p2), .val (.int p3), .val (.int p4), .val (.int p5), .val (.int v6), .val (.int v12), .val (.int v18), .val (.int v24), .val (.int v31), .val (.ref b33), .val (.ref b141), .val (.int v12), .val (.int v161), .val (.int v168), .val (.int j189_16)] [(.int (1 : Int32))])) t → P0 t := by
        intro t kt
        refine K174 t ?_
        refine XS.icmpNo X173.here hx rfl (hb hby at_230) rfl (teq hc230).2 ?_
        refine XS.iconst X173.here hx rfl (hb hby at_233) ?_
        show Steps p.tables e below (T173.setTop (mkF m 234 #[.val (.int p0), .val (.int p1), .val (.int p2), .val (.int p3), .val (.int p4), .val (.int p5), .val (.int v6), .val (.int v12), .val (.int v18), .val (.int v24), .val (.int v31), .val (.ref b33), .val (.ref b141), .val (.int v12), .val (.int v161), .val (.int v168), .val (.int j189_16)] [(.int (1 : Int32))])) t
        refine XS.goto X173.here hx rfl (pc0 := 234) (pc' := 238) rfl (hb hby at_234) (by decide) (by decide) ?_
        exact kt
      exact ⟨_, (if_pos hc230).symm, K175⟩
    · have K176 : ∀ t, Steps p.tables e below (T173.setTop (mkF m 238 #[.val (.int p0), .val (.int p1), .val (.int p2), .val (.int p3), .val (.int p4), .val (.int p5), .val (.int v6), .val (.int v12), .val (.int v18), .val (.int v24), .val (.int v31), .val (.ref b33), .val (.ref b141), .val (.int v12), .val (.int v161), .val (.int v168), .val (.int j189_16)] [(.int (0 : Int32))])) t → P0 t := by
        intro t kt
        refine K174 t ?_
        refine XS.icmpYes X173.here hx rfl (pc0 := 230) (pc' := 237) rfl (hb hby at_230) rfl (feq hc230).2 (by decide) (by decide) ?_
        refine XS.iconst X173.here hx rfl (hb hby at_237) ?_
        exact kt
      exact ⟨_, (if_neg hc230).symm, K176⟩
  have hres : j238_s0 = 1 := own_plain2 p0 p1 p2 p3 p4 p5 dce v6 v12 v18 v24 v31 v161 v168 j189_16 j238_s0 hn hv6 hv12 hv18 hv24 hv31 hv161 hv168 hj189_16 hj238_s0
  obtain ⟨fs, hr, hrun, hended, hW⟩ := X173.leaveW hS86 (by rw [e173]; exact Y148) (v := some (.int (1 : Int32))) (fun h => by rw [Bd.returns] at h; cases h)
  refine ⟨_, _, ?_, hrun, hended, _, _, rfl, ?_, hW.1, hW.2.1, hW.2.2.1, hW.2.2.2.mono (by decide) (by decide)⟩
  · rw [hres] at K177
    have q := K177 _ (retN X173 hx (t := .boolean) Bd.returns (by simp) (hb hby at_238) hr)
    rw [hP0] at q; exact q
  · exact ⟨rfl, N173⟩
theorem law3_pn : plainName "com/example/termwright/termwright/DocumentNumbersSegmentOfPinLaw" = true := by first | (simp [plainName, overriddenIn]; done) | decide +kernel
theorem law3_pd0 : parseMethodDescriptor "()V" = some ⟨[], none⟩ := by decide +kernel
theorem law3_pd1 : parseMethodDescriptor "(Ljava/lang/String;IJI)V" = some ⟨[(.object "java/lang/String"), .int, .long, .int], none⟩ := by decide +kernel
theorem law3_pd2 : parseMethodDescriptor "(Ljava/lang/Object;)Z" = some ⟨[(.object "java/lang/Object")], some .boolean⟩ := by decide +kernel
theorem law3_pd3 : parseMethodDescriptor "(Ljava/util/List;)V" = some ⟨[(.object "java/util/List")], none⟩ := by decide +kernel
theorem law3_pd4 : parseMethodDescriptor "(I)I" = some ⟨[.int], some .int⟩ := by decide +kernel
theorem law3_ef (m : MethodId) (x0 : Int32) (x1 : Int32) (x2 : Int32) (x3 : Int32) (x4 : Int32) (x5 : Int32) : entryFrame m #[(.int x0), (.int x1), (.int x2), (.int x3), (.int x4), (.int x5)] maxLocals = mkF m 0 #[.val (.int x0), .val (.int x1), .val (.int x2), .val (.int x3), .val (.int x4), .val (.int x5), .unset, .unset, .unset, .unset, .unset, .unset, .unset, .unset, .unset, .unset, .unset] [] := by first | (simp [entryFrame, mkF, argsToLocals, Value.category, maxLocals]; done) | rfl
set_option maxRecDepth 65536 in
set_option maxHeartbeats 40000000 in
theorem rm_law3 (l : Launch) (Z : State) (a0 : Array Value) (hw : ∀ d ∈ tables_1, d.before a0 Z = true) (ws : List Jvm.Cond) (p0 : Int32) (p1 : Int32) (p2 : Int32) (p3 : Int32) (p4 : Int32) (p5 : Int32) (dce : Addr) (h0 : Heap) (n0 : Nat) (Z0 : n0 ≤ h0.size) (H0 : LA Z h0 dce 0) (H1 : Sta Z h0 "java/util/ArrayList" "DEFAULTCAPACITY_EMPTY_ELEMENTDATA" "[Ljava/lang/Object;" (.ref dce)) (hn : ((p0 &&& (7 : Int32)) % (5 : Int32)) = (3 : Int32)) :
    MetFree l x (head1 (Jvm.Cond.code x code maxLocals ret :: ws) room_1) (fun a U => a = #[(.int p0), (.int p1), (.int p2), (.int p3), (.int p4), (.int p5)] ∧ Z.Warmed39 U.vm ∧ U.heap = h0) (fun _ _ _ _ _ => True) (fun _ U o U' => ∃ v L, o = .returned v ∧ QL n0 v U'.heap L ∧ ReturnedEndW U o U' L room_1.cells room_1.slots) := by
  refine MetFree.of_bodySF (plainFor_of_name law3_pn) hisR ?_
  intro p e s m args below meth c s₁ Bd hml0 hP hK
  obtain ⟨rfl, hZ, hh⟩ := hP
  have hx := Bd.exec
  have hby := Bd.bytes
  have hml : c.maxLocals = 17 := hml0
  have hown : s.vm.findClass "com/example/termwright/termwright/DocumentNumbersSegmentOfPinLaw" = some m.cls := findClass_of_methodNamed Bd.named
  have hnm := (name_of_methodNamed Bd.named Bd.method).1
  have X0 : Stand p l e room_1 s m #[(.int p0), (.int p1), (.int p2), (.int p3), (.int p4), (.int p5)] below meth c s₁ [] 0 0 := Stand.of_body Bd
  have e0 : s₁.heap = h0 := by rw [← hh, Bd.state]; rfl
  have N0 := Fr.nil n0
  have hstr : ∀ d ∈ Bundle.stringAtoms, d.before a0 Z = true := by
    intro d hd
    simp only [Bundle.stringAtoms, List.mem_cons, List.not_mem_nil, or_false] at hd
    rcases hd with rfl | rfl | rfl | rfl | rfl | rfl | rfl
    · exact (hw _ (gw 61 rfl))
    · exact (hw _ (gw 62 rfl))
    · exact (hw _ (gw 63 rfl))
    · exact (hw _ (gw 64 rfl))
    · exact (hw _ (gw 65 rfl))
    · exact (hw _ (gw 66 rfl))
    · exact (hw _ (gw 67 rfl))
  obtain ⟨P0, hP0⟩ : ∃ P0 : State → Prop, P0 = fun t => Steps p.tables e below (s₁.setTop (entryFrame m #[(.int p0), (.int p1), (.int p2), (.int p3), (.int p4), (.int p5)] maxLocals)) t := ⟨_, rfl⟩
  have K0 : ∀ t, Steps p.tables e below (s₁.setTop (mkF m 0 #[.val (.int p0), .val (.int p1), .val (.int p2), .val (.int p3), .val (.int p4), .val (.int p5), .unset, .unset, .unset, .unset, .unset, .unset, .unset, .unset, .unset, .unset, .unset] [])) t → P0 t := by
    intro t k; rw [hP0]; exact castTop (law3_ef m p0 p1 p2 p3 p4 p5) k
  have K1 : ∀ t, Steps p.tables e below (s₁.setTop (mkF m 8 #[.val (.int p0), .val (.int p1), .val (.int p2), .val (.int p3), .val (.int p4), .val (.int p5), .val (.int ((p0 &&& (7 : Int32)) % (5 : Int32))), .unset, .unset, .unset, .unset, .unset, .unset, .unset, .unset, .unset, .unset] [])) t → P0 t := by
    intro t kt
    refine K0 t ?_
    refine XS.iloadN X0.here hx rfl (hb hby at_0) rfl ?_
    refine XS.bipush X0.here hx rfl (hb hby at_1) ?_
    show Steps p.tables e below (s₁.setTop (mkF m 3 #[.val (.int p0), .val (.int p1), .val (.int p2), .val (.int p3), .val (.int p4), .val (.int p5), .unset, .unset, .unset, .unset, .unset, .unset, .unset, .unset, .unset, .unset, .unset] [(.int (7 : Int32)), (.int p0)])) t
    refine XS.iand X0.here hx rfl (hb hby at_3) rfl ?_
    refine XS.iconst X0.here hx rfl (hb hby at_4) ?_
    show Steps p.tables e below (s₁.setTop (mkF m 5 #[.val (.int p0), .val (.int p1), .val (.int p2), .val (.int p3), .val (.int p4), .val (.int p5), .unset, .unset, .unset, .unset, .unset, .unset, .unset, .unset, .unset, .unset, .unset] [(.int (5 : Int32)), (.int (p0 &&& (7 : Int32)))])) t
    refine iremM X0 hx rfl (hb hby at_5) rfl (by decide) ?_
    show Steps p.tables e below (s₁.setTop (mkF m 6 #[.val (.int p0), .val (.int p1), .val (.int p2), .val (.int p3), .val (.int p4), .val (.int p5), .unset, .unset, .unset, .unset, .unset, .unset, .unset, .unset, .unset, .unset, .unset] [(.int ((p0 &&& (7 : Int32)) % (5 : Int32)))])) t
    refine XS.istore X0.here hx rfl (hb hby at_6) rfl (l' := #[.val (.int p0), .val (.int p1), .val (.int p2), .val (.int p3), .val (.int p4), .val (.int p5), .val (.int ((p0 &&& (7 : Int32)) % (5 : Int32))), .unset, .unset, .unset, .unset, .unset, .unset, .unset, .unset, .unset, .unset]) rfl ?_
    exact kt
  obtain ⟨v6, hv6, K2⟩ : ∃ v6 : Int32, v6 = ((p0 &&& (7 : Int32)) % (5 : Int32)) ∧ ∀ t, Steps p.tables e below (s₁.setTop (mkF m 8 #[.val (.int p0), .val (.int p1), .val (.int p2), .val (.int p3), .val (.int p4), .val (.int p5), .val (.int v6), .unset, .unset, .unset, .unset, .unset, .unset, .unset, .unset, .unset, .unset] [])) t → P0 t := ⟨_, rfl, K1⟩
  have K3 : ∀ t, Steps p.tables e below (s₁.setTop (mkF m 14 #[.val (.int p0), .val (.int p1), .val (.int p2), .val (.int p3), .val (.int p4), .val (.int p5), .val (.int v6), .val (.int (p1 &&& (536870911 : Int32))), .unset, .unset, .unset, .unset, .unset, .unset, .unset, .unset, .unset] [])) t → P0 t := by
    intro t kt
    refine K2 t ?_
    refine XS.iloadN X0.here hx rfl (hb hby at_8) rfl ?_
    show Steps p.tables e below (s₁.setTop (mkF m 9 #[.val (.int p0), .val (.int p1), .val (.int p2), .val (.int p3), .val (.int p4), .val (.int p5), .val (.int v6), .unset, .unset, .unset, .unset, .unset, .unset, .unset, .unset, .unset, .unset] [(.int p1)])) t
    refine X0.ldcInt hx hown (mvT hZ (hw _ (gw 0 rfl))) (g := (mkF m 9 #[.val (.int p0), .val (.int p1), .val (.int p2), .val (.int p3), .val (.int p4), .val (.int p5), .val (.int v6), .unset, .unset, .unset, .unset, .unset, .unset, .unset, .unset, .unset, .unset] [(.int p1)])) rfl (hb hby at_9) _ ?_
    show Steps p.tables e below (s₁.setTop (mkF m 11 #[.val (.int p0), .val (.int p1), .val (.int p2), .val (.int p3), .val (.int p4), .val (.int p5), .val (.int v6), .unset, .unset, .unset, .unset, .unset, .unset, .unset, .unset, .unset, .unset] [(.int (536870911 : Int32)), (.int p1)])) t
    refine XS.iand X0.here hx rfl (hb hby at_11) rfl ?_
    show Steps p.tables e below (s₁.setTop (mkF m 12 #[.val (.int p0), .val (.int p1), .val (.int p2), .val (.int p3), .val (.int p4), .val (.int p5), .val (.int v6), .unset, .unset, .unset, .unset, .unset, .unset, .unset, .unset, .unset, .unset] [(.int (p1 &&& (536870911 : Int32)))])) t
    refine XS.istore X0.here hx rfl (hb hby at_12) rfl (l' := #[.val (.int p0), .val (.int p1), .val (.int p2), .val (.int p3), .val (.int p4), .val (.int p5), .val (.int v6), .val (.int (p1 &&& (536870911 : Int32))), .unset, .unset, .unset, .unset, .unset, .unset, .unset, .unset, .unset]) rfl ?_
    exact kt
  obtain ⟨v12, hv12, K4⟩ : ∃ v12 : Int32, v12 = (p1 &&& (536870911 : Int32)) ∧ ∀ t, Steps p.tables e below (s₁.setTop (mkF m 14 #[.val (.int p0), .val (.int p1), .val (.int p2), .val (.int p3), .val (.int p4), .val (.int p5), .val (.int v6), .val (.int v12), .unset, .unset, .unset, .unset, .unset, .unset, .unset, .unset, .unset] [])) t → P0 t := ⟨_, rfl, K3⟩
  have K5 : ∀ t, Steps p.tables e below (s₁.setTop (mkF m 20 #[.val (.int p0), .val (.int p1), .val (.int p2), .val (.int p3), .val (.int p4), .val (.int p5), .val (.int v6), .val (.int v12), .val (.int (p2 &&& (536870911 : Int32))), .unset, .unset, .unset, .unset, .unset, .unset, .unset, .unset] [])) t → P0 t := by
    intro t kt
    refine K4 t ?_
    refine XS.iloadN X0.here hx rfl (hb hby at_14) rfl ?_
    show Steps p.tables e below (s₁.setTop (mkF m 15 #[.val (.int p0), .val (.int p1), .val (.int p2), .val (.int p3), .val (.int p4), .val (.int p5), .val (.int v6), .val (.int v12), .unset, .unset, .unset, .unset, .unset, .unset, .unset, .unset, .unset] [(.int p2)])) t
    refine X0.ldcInt hx hown (mvT hZ (hw _ (gw 0 rfl))) (g := (mkF m 15 #[.val (.int p0), .val (.int p1), .val (.int p2), .val (.int p3), .val (.int p4), .val (.int p5), .val (.int v6), .val (.int v12), .unset, .unset, .unset, .unset, .unset, .unset, .unset, .unset, .unset] [(.int p2)])) rfl (hb hby at_15) _ ?_
    show Steps p.tables e below (s₁.setTop (mkF m 17 #[.val (.int p0), .val (.int p1), .val (.int p2), .val (.int p3), .val (.int p4), .val (.int p5), .val (.int v6), .val (.int v12), .unset, .unset, .unset, .unset, .unset, .unset, .unset, .unset, .unset] [(.int (536870911 : Int32)), (.int p2)])) t
    refine XS.iand X0.here hx rfl (hb hby at_17) rfl ?_
    show Steps p.tables e below (s₁.setTop (mkF m 18 #[.val (.int p0), .val (.int p1), .val (.int p2), .val (.int p3), .val (.int p4), .val (.int p5), .val (.int v6), .val (.int v12), .unset, .unset, .unset, .unset, .unset, .unset, .unset, .unset, .unset] [(.int (p2 &&& (536870911 : Int32)))])) t
    refine XS.istore X0.here hx rfl (hb hby at_18) rfl (l' := #[.val (.int p0), .val (.int p1), .val (.int p2), .val (.int p3), .val (.int p4), .val (.int p5), .val (.int v6), .val (.int v12), .val (.int (p2 &&& (536870911 : Int32))), .unset, .unset, .unset, .unset, .unset, .unset, .unset, .unset]) rfl ?_
    exact kt
  obtain ⟨v18, hv18, K6⟩ : ∃ v18 : Int32, v18 = (p2 &&& (536870911 : Int32)) ∧ ∀ t, Steps p.tables e below (s₁.setTop (mkF m 20 #[.val (.int p0), .val (.int p1), .val (.int p2), .val (.int p3), .val (.int p4), .val (.int p5), .val (.int v6), .val (.int v12), .val (.int v18), .unset, .unset, .unset, .unset, .unset, .unset, .unset, .unset] [])) t → P0 t := ⟨_, rfl, K5⟩
  have K7 : ∀ t, Steps p.tables e below (s₁.setTop (mkF m 26 #[.val (.int p0), .val (.int p1), .val (.int p2), .val (.int p3), .val (.int p4), .val (.int p5), .val (.int v6), .val (.int v12), .val (.int v18), .val (.int (p3 &&& (536870911 : Int32))), .unset, .unset, .unset, .unset, .unset, .unset, .unset] [])) t → P0 t := by
    intro t kt
    refine K6 t ?_
    refine XS.iloadN X0.here hx rfl (hb hby at_20) rfl ?_
    show Steps p.tables e below (s₁.setTop (mkF m 21 #[.val (.int p0), .val (.int p1), .val (.int p2), .val (.int p3), .val (.int p4), .val (.int p5), .val (.int v6), .val (.int v12), .val (.int v18), .unset, .unset, .unset, .unset, .unset, .unset, .unset, .unset] [(.int p3)])) t
    refine X0.ldcInt hx hown (mvT hZ (hw _ (gw 0 rfl))) (g := (mkF m 21 #[.val (.int p0), .val (.int p1), .val (.int p2), .val (.int p3), .val (.int p4), .val (.int p5), .val (.int v6), .val (.int v12), .val (.int v18), .unset, .unset, .unset, .unset, .unset, .unset, .unset, .unset] [(.int p3)])) rfl (hb hby at_21) _ ?_
    show Steps p.tables e below (s₁.setTop (mkF m 23 #[.val (.int p0), .val (.int p1), .val (.int p2), .val (.int p3), .val (.int p4), .val (.int p5), .val (.int v6), .val (.int v12), .val (.int v18), .unset, .unset, .unset, .unset, .unset, .unset, .unset, .unset] [(.int (536870911 : Int32)), (.int p3)])) t
    refine XS.iand X0.here hx rfl (hb hby at_23) rfl ?_
    show Steps p.tables e below (s₁.setTop (mkF m 24 #[.val (.int p0), .val (.int p1), .val (.int p2), .val (.int p3), .val (.int p4), .val (.int p5), .val (.int v6), .val (.int v12), .val (.int v18), .unset, .unset, .unset, .unset, .unset, .unset, .unset, .unset] [(.int (p3 &&& (536870911 : Int32)))])) t
    refine XS.istore X0.here hx rfl (hb hby at_24) rfl (l' := #[.val (.int p0), .val (.int p1), .val (.int p2), .val (.int p3), .val (.int p4), .val (.int p5), .val (.int v6), .val (.int v12), .val (.int v18), .val (.int (p3 &&& (536870911 : Int32))), .unset, .unset, .unset, .unset, .unset, .unset, .unset]) rfl ?_
    exact kt
  obtain ⟨v24, hv24, K8⟩ : ∃ v24 : Int32, v24 = (p3 &&& (536870911 : Int32)) ∧ ∀ t, Steps p.tables e below (s₁.setTop (mkF m 26 #[.val (.int p0), .val (.int p1), .val (.int p2), .val (.int p3), .val (.int p4), .val (.int p5), .val (.int v6), .val (.int v12), .val (.int v18), .val (.int v24), .unset, .unset, .unset, .unset, .unset, .unset, .unset] [])) t → P0 t := ⟨_, rfl, K7⟩
  have K9 : ∀ t, Steps p.tables e below (s₁.setTop (mkF m 33 #[.val (.int p0), .val (.int p1), .val (.int p2), .val (.int p3), .val (.int p4), .val (.int p5), .val (.int v6), .val (.int v12), .val (.int v18), .val (.int v24), .val (.int (p4 &&& (536870911 : Int32))), .unset, .unset, .unset, .unset, .unset, .unset] [])) t → P0 t := by
    intro t kt
    refine K8 t ?_
    refine XS.iload X0.here hx rfl (hb hby at_26) rfl ?_
    show Steps p.tables e below (s₁.setTop (mkF m 28 #[.val (.int p0), .val (.int p1), .val (.int p2), .val (.int p3), .val (.int p4), .val (.int p5), .val (.int v6), .val (.int v12), .val (.int v18), .val (.int v24), .unset, .unset, .unset, .unset, .unset, .unset, .unset] [(.int p4)])) t
    refine X0.ldcInt hx hown (mvT hZ (hw _ (gw 0 rfl))) (g := (mkF m 28 #[.val (.int p0), .val (.int p1), .val (.int p2), .val (.int p3), .val (.int p4), .val (.int p5), .val (.int v6), .val (.int v12), .val (.int v18), .val (.int v24), .unset, .unset, .unset, .unset, .unset, .unset, .unset] [(.int p4)])) rfl (hb hby at_28) _ ?_
    show Steps p.tables e below (s₁.setTop (mkF m 30 #[.val (.int p0), .val (.int p1), .val (.int p2), .val (.int p3), .val (.int p4), .val (.int p5), .val (.int v6), .val (.int v12), .val (.int v18), .val (.int v24), .unset, .unset, .unset, .unset, .unset, .unset, .unset] [(.int (536870911 : Int32)), (.int p4)])) t
    refine XS.iand X0.here hx rfl (hb hby at_30) rfl ?_
    show Steps p.tables e below (s₁.setTop (mkF m 31 #[.val (.int p0), .val (.int p1), .val (.int p2), .val (.int p3), .val (.int p4), .val (.int p5), .val (.int v6), .val (.int v12), .val (.int v18), .val (.int v24), .unset, .unset, .unset, .unset, .unset, .unset, .unset] [(.int (p4 &&& (536870911 : Int32)))])) t
    refine XS.istore X0.here hx rfl (hb hby at_31) rfl (l' := #[.val (.int p0), .val (.int p1), .val (.int p2), .val (.int p3), .val (.int p4), .val (.int p5), .val (.int v6), .val (.int v12), .val (.int v18), .val (.int v24), .val (.int (p4 &&& (536870911 : Int32))), .unset, .unset, .unset, .unset, .unset, .unset]) rfl ?_
    exact kt
  obtain ⟨v31, hv31, K10⟩ : ∃ v31 : Int32, v31 = (p4 &&& (536870911 : Int32)) ∧ ∀ t, Steps p.tables e below (s₁.setTop (mkF m 33 #[.val (.int p0), .val (.int p1), .val (.int p2), .val (.int p3), .val (.int p4), .val (.int p5), .val (.int v6), .val (.int v12), .val (.int v18), .val (.int v24), .val (.int v31), .unset, .unset, .unset, .unset, .unset, .unset] [])) t → P0 t := ⟨_, rfl, K9⟩
  obtain ⟨T11, h11, X11, e11, E11, A11, D11, -, st11⟩ := newO X0 hx hZ hown (hw _ (gw 1 rfl)) (hw _ (gw 2 rfl)) (hw _ (gw 3 rfl)) e0 (g := (mkF m 33 #[.val (.int p0), .val (.int p1), .val (.int p2), .val (.int p3), .val (.int p4), .val (.int p5), .val (.int v6), .val (.int v12), .val (.int v18), .val (.int v24), .val (.int v31), .unset, .unset, .unset, .unset, .unset, .unset] [])) rfl (hb hby at_33) (by decide) (by decide)
  obtain ⟨b33, g11⟩ : ∃ z, z = h0.size := ⟨_, rfl⟩
  have g_b33 : n0 ≤ b33 := Nat.le_trans Z0 (Nat.le_of_eq g11.symm)
  have ne_dce_b33 : dce ≠ b33 := Nat.ne_of_lt (Nat.lt_of_lt_of_le H0.lt (Nat.le_of_eq g11.symm))
  rw [← g11] at A11 D11 st11
  have Z11 : n0 ≤ h11.size := Nat.le_trans Z0 E11.1
  have F12 := H0.ext E11
  have F13 := Sta.ext E11 H1
  have F14 : Fld Z h11 b33 "java/util/AbstractList" "modCount" "I" (.int (0 : Int32)) := D11 (Or.inl (hw _ (gw 23 rfl))) (ty := .int) (by decide)
  have F15 : Fld Z h11 b33 "java/util/ArrayList" "elementData" "[Ljava/lang/Object;" .null := D11 (Or.inl (hw _ (gw 26 rfl))) (ty := (.array (.object "java/lang/Object"))) (by decide)
  have F16 : Fld Z h11 b33 "java/util/ArrayList" "size" "I" (.int (0 : Int32)) := D11 (Or.inl (hw _ (gw 44 rfl))) (ty := .int) (by decide)
  obtain ⟨_, _, ⟨T17, L17, k17, n17⟩, -, X17, ⟨Lc17, hQ17, l17, y17, z17⟩, st17⟩ := X11.specialBack hx (y := (⟨"java/util/ArrayList", "<init>", "()V"⟩ : MethodName)) rfl hown (mvT hZ (hw _ (gw 4 rfl))) (mvT hZ (hw _ (gw 5 rfl))) (mvT hZ (hw _ (gw 6 rfl))) (by decide) (backOf (W := 1) (rm_ali l Z a0 hw [] b33 _ _ (0 : Int32) dce h11 n0 Z11 A11 F14 F15 F16 F13 g_b33) hZ (hw _ (gw 6 rfl)) (hw _ (gw 3 rfl)) (by decide) (by decide)) (g := (mkF m 37 #[.val (.int p0), .val (.int p1), .val (.int p2), .val (.int p3), .val (.int p4), .val (.int p5), .val (.int v6), .val (.int v12), .val (.int v18), .val (.int v24), .val (.int v31), .unset, .unset, .unset, .unset, .unset, .unset] [(.ref b33), (.ref b33)])) rfl (by rw [hml]; rfl) (Steps.refl _) (a := b33) (argsL := []) (rest := [(.ref b33)]) (lenOf law3_pd0 rfl) rfl (by show 2 * 0 + _ ≤ _; exact Nat.le_of_eq rfl) (hb hby at_37) (fun _ _ => ⟨rfl, e11, (by decide : 1 + 0 ≤ _), (by decide : 3 + 0 ≤ _)⟩)
  dsimp only [Pt.U, Pt.locs, Pt.cells, Pt.slots] at X17 l17 y17 z17 st17 hQ17
  rw [l17, y17, z17] at X17
  obtain ⟨h17, e17⟩ : ∃ z, T17.heap = z := ⟨_, rfl⟩
  rw [e17] at hQ17
  obtain ⟨rfl, N17q, Kq17, F18, F19, F20, F21⟩ := hQ17
  have N17 := Fr.app N0 N17q
  have Z17 : n0 ≤ h17.size := Nat.le_trans Z11 Kq17.1
  have F22 := F12.keep Kq17 (ninS ne_dce_b33 nin0)
  have F23 := own_keepS F13 Kq17 (allS (own_plE A11) all0)
  obtain ⟨T24, h24, X24, e24, E24, A24, D24, -, st24⟩ := newO X17 hx hZ hown (hw _ (gw 57 rfl)) (hw _ (gw 58 rfl)) (hw _ (gw 59 rfl)) e17 (g := (mkF m 49 #[.val (.int p0), .val (.int p1), .val (.int p2), .val (.int p3), .val (.int p4), .val (.int p5), .val (.int v6), .val (.int v12), .val (.int v18), .val (.int v24), .val (.int v31), .val (.ref b33), .unset, .unset, .unset, .unset, .unset] [(.ref b33)])) rfl (hb hby at_49) (by decide) (by decide)
  obtain ⟨b49, g24⟩ : ∃ z, z = h17.size := ⟨_, rfl⟩
  have g_b49 : n0 ≤ b49 := Nat.le_trans Z17 (Nat.le_of_eq g24.symm)
  have ne_dce_b49 : dce ≠ b49 := Nat.ne_of_lt (Nat.lt_of_lt_of_le F22.lt (Nat.le_of_eq g24.symm))
  have ne_b33_b49 : b33 ≠ b49 := Nat.ne_of_lt (Nat.lt_of_lt_of_le F18.lt (Nat.le_of_eq g24.symm))
  rw [← g24] at A24 D24 st24
  have Z24 : n0 ≤ h24.size := Nat.le_trans Z17 E24.1
  have F25 := F22.ext E24
  have F26 := Sta.ext E24 F23
  have F27 := Exa.ext E24 F18
  have F28 := Fld.ext E24 F19
  have F29 := Fld.ext E24 F20
  have F30 := Fld.ext E24 F21
  have F31 : Fld Z h24 b49 "com/example/termwright/termwright/Commit$Segment" "name" "Ljava/lang/String;" .null := D24 (Or.inr (hw _ (gw 81 rfl))) (ty := (.object "java/lang/String")) (by decide)
  have F32 : Fld Z h24 b49 "com/example/termwright/termwright/Commit$Segment" "documentCount" "I" (.int (0 : Int32)) := D24 (Or.inr (hw _ (gw 83 rfl))) (ty := .int) (by decide)
  have F33 : Fld Z h24 b49 "com/example/termwright/termwright/Commit$Segment" "length" "J" (.long (0 : Int64)) := D24 (Or.inr (hw _ (gw 85 rfl))) (ty := .long) (by decide)
  have F34 : Fld Z h24 b49 "com/example/termwright/termwright/Commit$Segment" "checksum" "I" (.int (0 : Int32)) := D24 (Or.inr (hw _ (gw 87 rfl))) (ty := .int) (by decide)
  have F35 : Fld Z h24 b49 "com/example/termwright/termwright/Commit$Segment" "deletions" "Lcom/example/termwright/termwright/Commit$DeletionsFile;" .null := D24 (Or.inr (hw _ (gw 89 rfl))) (ty := (.object "com/example/termwright/termwright/Commit$DeletionsFile")) (by decide)
  obtain ⟨lit53, T36, h36, k36, X36, e36, E36, hS36, hk36, hZ, hown, st36⟩ := ldcS (show Stand p l e room_1 (s.setVm s.vm) m #[(.int p0), (.int p1), (.int p2), (.int p3), (.int p4), (.int p5)] below meth c T24 _ _ _ from X24) hx hZ hown (hw _ (gw 60 rfl)) hstr e24 ((State.WarmedH.refl s).since n0) Z24 (g := (mkF m 53 #[.val (.int p0), .val (.int p1), .val (.int p2), .val (.int p3), .val (.int p4), .val (.int p5), .val (.int v6), .val (.int v12), .val (.int v18), .val (.int v24), .val (.int v31), .val (.ref b33), .unset, .unset, .unset, .unset, .unset] [(.ref b49), (.ref b49), (.ref b33)])) rfl (hb hby at_53) (n := 4) (by decide) (by decide) (by decide) (by decide)
  have Z36 : n0 ≤ h36.size := Nat.le_trans Z24 E36.1
  have F37 := F25.ext E36
  have F38 := Sta.ext E36 F26
  have F39 := Exa.ext E36 F27
  have F40 := Fld.ext E36 F28
  have F41 := Fld.ext E36 F29
  have F42 := Fld.ext E36 F30
  have F43 := Exa.ext E36 A24
  have F44 := Fld.ext E36 F31
  have F45 := Fld.ext E36 F32
  have F46 := Fld.ext E36 F33
  have F47 := Fld.ext E36 F34
  have F48 := Fld.ext E36 F35
  obtain ⟨_, _, ⟨T49, L49, k49, n49⟩, -, X49, ⟨Lc49, hQ49, l49, y49, z49⟩, st49⟩ := X36.specialBack hx (y := (⟨"com/example/termwright/termwright/Commit$Segment", "<init>", "(Ljava/lang/String;IJI)V"⟩ : MethodName)) rfl hown (mvT hZ (hw _ (gw 68 rfl))) (mvT hZ (hw _ (gw 69 rfl))) (mvT hZ (hw _ (gw 70 rfl))) (by decide) (backOf (W := 2) (rm_sgo l Z a0 hw [] b49 lit53 v12 (0 : Int64) (0 : Int32) _ _ _ _ _ h36 n0 Z36 F43 F44 F45 F46 F47 F48 g_b49) hZ (hw _ (gw 70 rfl)) (hw _ (gw 59 rfl)) (by decide) (by decide)) (g := (mkF m 59 #[.val (.int p0), .val (.int p1), .val (.int p2), .val (.int p3), .val (.int p4), .val (.int p5), .val (.int v6), .val (.int v12), .val (.int v18), .val (.int v24), .val (.int v31), .val (.ref b33), .unset, .unset, .unset, .unset, .unset] [(.int (0 : Int32)), (.long (0 : Int64)), (.int v12), (.ref lit53), (.ref b49), (.ref b49), (.ref b33)])) rfl (by rw [hml]; rfl) (Steps.refl _) (a := b49) (argsL := [(.ref lit53), (.int v12), (.long (0 : Int64)), (.int (0 : Int32))]) (rest := [(.ref b49), (.ref b33)]) (lenOf law3_pd1 rfl) rfl (by show 2 * 0 + _ ≤ _; exact Nat.le_of_eq rfl) (hb hby at_59) (fun _ _ => ⟨rfl, e36, (by decide : 4 + 0 ≤ _), (by decide : 16 + 0 ≤ _)⟩)
  dsimp only [Pt.U, Pt.locs, Pt.cells, Pt.slots] at X49 l49 y49 z49 st49 hQ49
  rw [l49, y49, z49] at X49
  obtain ⟨h49, e49⟩ : ∃ z, T49.heap = z := ⟨_, rfl⟩
  rw [e49] at hQ49
  obtain ⟨rfl, N49q, Kq49, F50, F51, F52⟩ := hQ49
  have N49 := Fr.app N17 N49q
  have Z49 : n0 ≤ h49.size := Nat.le_trans Z36 Kq49.1
  have Y49 : k36 ≤ h49.size := Nat.le_trans hk36 Kq49.1
  have F53 := F37.keep Kq49 (ninS ne_dce_b49 nin0)
  have F54 := own_keepS F38 Kq49 (allS (own_plE F43) all0)
  have F55 := F39.keep Kq49
  have F56 := F40.keep Kq49 (ninS ne_b33_b49 nin0)
  have F57 := F41.keep Kq49 (ninS ne_b33_b49 nin0)
  have F58 := F42.keep Kq49 (ninS ne_b33_b49 nin0)
  obtain ⟨cq59, kq59, q59a, q59b, q59c⟩ := isOf hZ e49 F55
  obtain ⟨_, _, ⟨T59, L59, k59, n59⟩, -, X59, ⟨Lc59, hQ59, l59, y59, z59⟩, st59⟩ := X49.virtualBack hx (y := (⟨"java/util/ArrayList", "add", "(Ljava/lang/Object;)Z"⟩ : MethodName)) (z := (⟨"java/util/ArrayList", "add", "(Ljava/lang/Object;)Z"⟩ : MethodName)) hown (mvT hZ (hw _ (gw 90 rfl))) (mvT hZ (hw _ (gw 91 rfl))) (notFace_of_selects (args := #[]) (mvT hZ (hw _ (gw 93 rfl)))) (mvT hZ (hw _ (gw 93 rfl))) (mvT hZ (hw _ (gw 92 rfl))) (by decide) (backOf (W := 0) (rm_ada l Z a0 hw [] b33 b49 (0 : Int32) dce h49 n0 Z49 F55 F56 F57 F58 F53 F54 F50 g_b33 (Ne.symm ne_dce_b33) ne_b33_b49) hZ (hw _ (gw 94 rfl)) (hw _ (gw 3 rfl)) (by decide) (by decide)) q59a q59c (g := (mkF m 62 #[.val (.int p0), .val (.int p1), .val (.int p2), .val (.int p3), .val (.int p4), .val (.int p5), .val (.int v6), .val (.int v12), .val (.int v18), .val (.int v24), .val (.int v31), .val (.ref b33), .unset, .unset, .unset, .unset, .unset] [(.ref b49), (.ref b33)])) rfl (by rw [hml]; rfl) (Steps.refl _) (argsL := [(.ref b49)]) (rest := []) (lenOf law3_pd2 rfl) rfl (by show 2 * 0 + _ ≤ _; exact Nat.le_of_eq rfl) (hb hby at_62) (fun _ _ => ⟨rfl, e49, (by decide : 4 + 1 ≤ _), (by decide : 16 + 10 ≤ _)⟩)
  dsimp only [Pt.U, Pt.locs, Pt.cells, Pt.slots] at X59 l59 y59 z59 st59 hQ59
  rw [l59, y59, z59] at X59
  obtain ⟨h59, e59⟩ : ∃ z, T59.heap = z := ⟨_, rfl⟩
  rw [e59] at hQ59
  obtain ⟨ed, rfl, N59q, Kq59, gs_ed, F60, F61, F62, F63, F64⟩ := hQ59
  have N59 := Fr.app N49 N59q
  have g_ed : n0 ≤ ed := Nat.le_trans Z49 gs_ed
  have ne_dce_ed : dce ≠ ed := Nat.ne_of_lt (Nat.lt_of_lt_of_le F53.lt gs_ed)
  have ne_b33_ed : b33 ≠ ed := Nat.ne_of_lt (Nat.lt_of_lt_of_le F55.lt gs_ed)
  have ne_b49_ed : b49 ≠ ed := Nat.ne_of_lt (Nat.lt_of_lt_of_le F50.lt gs_ed)
  have Z59 : n0 ≤ h59.size := Nat.le_trans Z49 Kq59.1
  have Y59 : k36 ≤ h59.size := Nat.le_trans Y49 Kq59.1
  have F65 := F53.keep Kq59 (ninS ne_dce_b33 nin0)
  have F66 := own_keepS F54 Kq59 (allS (own_plE F55) all0)
  have F67 := F50.keep Kq59
  have F68 := F51.keep Kq59 (ninS (Ne.symm ne_b33_b49) nin0)
  have F69 := F52.keep Kq59 (ninS (Ne.symm ne_b33_b49) nin0)
  obtain ⟨T70, h70, X70, e70, E70, A70, D70, -, st70⟩ := newO X59 hx hZ hown (hw _ (gw 57 rfl)) (hw _ (gw 58 rfl)) (hw _ (gw 59 rfl)) e59 (g := (mkF m 74 #[.val (.int p0), .val (.int p1), .val (.int p2), .val (.int p3), .val (.int p4), .val (.int p5), .val (.int v6), .val (.int v12), .val (.int v18), .val (.int v24), .val (.int v31), .val (.ref b33), .unset, .unset, .unset, .unset, .unset] [(.ref b33)])) rfl (hb hby at_74) (by decide) (by decide)
  obtain ⟨b74, g70⟩ : ∃ z, z = h59.size := ⟨_, rfl⟩
  have g_b74 : n0 ≤ b74 := Nat.le_trans Z59 (Nat.le_of_eq g70.symm)
  have ne_dce_b74 : dce ≠ b74 := Nat.ne_of_lt (Nat.lt_of_lt_of_le F65.lt (Nat.le_of_eq g70.symm))
  have ne_b33_b74 : b33 ≠ b74 := Nat.ne_of_lt (Nat.lt_of_lt_of_le F60.lt (Nat.le_of_eq g70.symm))
  have ne_b49_b74 : b49 ≠ b74 := Nat.ne_of_lt (Nat.lt_of_lt_of_le F67.lt (Nat.le_of_eq g70.symm))
  have ne_ed_b74 : ed ≠ b74 := Nat.ne_of_lt (Nat.lt_of_lt_of_le F64.lt (Nat.le_of_eq g70.symm))
  rw [← g70] at A70 D70 st70
  have Z70 : n0 ≤ h70.size := Nat.le_trans Z59 E70.1
  have Y70 : k36 ≤ h70.size := Nat.le_trans Y59 E70.1
  have F71 := F65.ext E70
  have F72 := Sta.ext E70 F66
  have F73 := Exa.ext E70 F60
  have F74 := Fld.ext E70 F61
  have F75 := Fld.ext E70 F62
  have F76 := Fld.ext E70 F63
  have F77 := Exa.ext E70 F67
  have F78 := Fld.ext E70 F68
  have F79 := Fld.ext E70 F69
  have F80 := F64.ext E70
  have F81 : Fld Z h70 b74 "com/example/termwright/termwright/Commit$Segment" "name" "Ljava/lang/String;" .null := D70 (Or.inr (hw _ (gw 81 rfl))) (ty := (.object "java/lang/String")) (by decide)
  have F82 : Fld Z h70 b74 "com/example/termwright/termwright/Commit$Segment" "documentCount" "I" (.int (0 : Int32)) := D70 (Or.inr (hw _ (gw 83 rfl))) (ty := .int) (by decide)
  have F83 : Fld Z h70 b74 "com/example/termwright/termwright/Commit$Segment" "length" "J" (.long (0 : Int64)) := D70 (Or.inr (hw _ (gw 85 rfl))) (ty := .long) (by decide)
  have F84 : Fld Z h70 b74 "com/example/termwright/termwright/Commit$Segment" "checksum" "I" (.int (0 : Int32)) := D70 (Or.inr (hw _ (gw 87 rfl))) (ty := .int) (by decide)
  have F85 : Fld Z h70 b74 "com/example/termwright/termwright/Commit$Segment" "deletions" "Lcom/example/termwright/termwright/Commit$DeletionsFile;" .null := D70 (Or.inr (hw _ (gw 89 rfl))) (ty := (.object "com/example/termwright/termwright/Commit$DeletionsFile")) (by decide)
  obtain ⟨lit78, T86, h86, k86, X86, e86, E86, hS86, hk86, hZ, hown, st86⟩ := ldcS X70 hx hZ hown (hw _ (gw 60 rfl)) hstr e70 hS36 Y70 (g := (mkF m 78 #[.val (.int p0), .val (.int p1), .val (.int p2), .val (.int p3), .val (.int p4), .val (.int p5), .val (.int v6), .val (.int v12), .val (.int v18), .val (.int v24), .val (.int v31), .val (.ref b33), .unset, .unset, .unset, .unset, .unset] [(.ref b74), (.ref b74), (.ref b33)])) rfl (hb hby at_78) (n := 4) (by decide) (by decide) (by decide) (by decide)
  have Z86 : n0 ≤ h86.size := Nat.le_trans Z70 E86.1
  have F87 := F71.ext E86
  have F88 := Sta.ext E86 F72
  have F89 := Exa.ext E86 F73
  have F90 := Fld.ext E86 F74
  have F91 := Fld.ext E86 F75
  have F92 := Fld.ext E86 F76
  have F93 := Exa.ext E86 F77
  have F94 := Fld.ext E86 F78
  have F95 := Fld.ext E86 F79
  have F96 := F80.ext E86
  have F97 := Exa.ext E86 A70
  have F98 := Fld.ext E86 F81
  have F99 := Fld.ext E86 F82
  have F100 := Fld.ext E86 F83
  have F101 := Fld.ext E86 F84
  have F102 := Fld.ext E86 F85
  obtain ⟨_, _, ⟨T103, L103, k103, n103⟩, -, X103, ⟨Lc103, hQ103, l103, y103, z103⟩, st103⟩ := X86.specialBack hx (y := (⟨"com/example/termwright/termwright/Commit$Segment", "<init>", "(Ljava/lang/String;IJI)V"⟩ : MethodName)) rfl hown (mvT hZ (hw _ (gw 68 rfl))) (mvT hZ (hw _ (gw 69 rfl))) (mvT hZ (hw _ (gw 70 rfl))) (by decide) (backOf (W := 2) (rm_sgo l Z a0 hw [] b74 lit78 v18 (0 : Int64) (0 : Int32) _ _ _ _ _ h86 n0 Z86 F97 F98 F99 F100 F101 F102 g_b74) hZ (hw _ (gw 70 rfl)) (hw _ (gw 59 rfl)) (by decide) (by decide)) (g := (mkF m 84 #[.val (.int p0), .val (.int p1), .val (.int p2), .val (.int p3), .val (.int p4), .val (.int p5), .val (.int v6), .val (.int v12), .val (.int v18), .val (.int v24), .val (.int v31), .val (.ref b33), .unset, .unset, .unset, .unset, .unset] [(.int (0 : Int32)), (.long (0 : Int64)), (.int v18), (.ref lit78), (.ref b74), (.ref b74), (.ref b33)])) rfl (by rw [hml]; rfl) (Steps.refl _) (a := b74) (argsL := [(.ref lit78), (.int v18), (.long (0 : Int64)), (.int (0 : Int32))]) (rest := [(.ref b74), (.ref b33)]) (lenOf law3_pd1 rfl) rfl (by show 2 * 0 + _ ≤ _; exact Nat.le_of_eq rfl) (hb hby at_84) (fun _ _ => ⟨rfl, e86, (by decide : 8 + 0 ≤ _), (by decide : 39 + 0 ≤ _)⟩)
  dsimp only [Pt.U, Pt.locs, Pt.cells, Pt.slots] at X103 l103 y103 z103 st103 hQ103
  rw [l103, y103, z103] at X103
  obtain ⟨h103, e103⟩ : ∃ z, T103.heap = z := ⟨_, rfl⟩
  rw [e103] at hQ103
  obtain ⟨rfl, N103q, Kq103, F104, F105, F106⟩ := hQ103
  have N103 := Fr.app N59 N103q
  have Z103 : n0 ≤ h103.size := Nat.le_trans Z86 Kq103.1
  have Y103 : k86 ≤ h103.size := Nat.le_trans hk86 Kq103.1
  have F107 := F87.keep Kq103 (ninS ne_dce_b74 nin0)
  have F108 := own_keepS F88 Kq103 (allS (own_plE F97) all0)
  have F109 := F89.keep Kq103
  have F110 := F90.keep Kq103 (ninS ne_b33_b74 nin0)
  have F111 := F91.keep Kq103 (ninS ne_b33_b74 nin0)
  have F112 := F92.keep Kq103 (ninS ne_b33_b74 nin0)
  have F113 := F93.keep Kq103
  have F114 := F94.keep Kq103 (ninS ne_b49_b74 nin0)
  have F115 := F95.keep Kq103 (ninS ne_b49_b74 nin0)
  have F116 := F96.keep Kq103 (ninS ne_ed_b74 nin0)
  obtain ⟨cq117, kq117, q117a, q117b, q117c⟩ := isOf hZ e103 F109
  obtain ⟨_, _, ⟨T117, L117, k117, n117⟩, -, X117, ⟨Lc117, hQ117, l117, y117, z117⟩, st117⟩ := X103.virtualBack hx (y := (⟨"java/util/ArrayList", "add", "(Ljava/lang/Object;)Z"⟩ : MethodName)) (z := (⟨"java/util/ArrayList", "add", "(Ljava/lang/Object;)Z"⟩ : MethodName)) hown (mvT hZ (hw _ (gw 90 rfl))) (mvT hZ (hw _ (gw 91 rfl))) (notFace_of_selects (args := #[]) (mvT hZ (hw _ (gw 93 rfl)))) (mvT hZ (hw _ (gw 93 rfl))) (mvT hZ (hw _ (gw 92 rfl))) (by decide) (backOf (W := 0) (rm_adb l Z a0 hw [] b33 b74 (1 : Int32) ed ((0 : Int32) + (1 : Int32)) (2 : Int32) (updV (fun _ => .null) 0 (.ref b49)) 1 h103 n0 Z103 F109 F110 F111 F112 F116 F104 g_b33 g_ed ne_b33_ed ne_b33_b74 ne_ed_b74 (by decide) (by decide) (by decide) (by decide) (by decide)) hZ (hw _ (gw 94 rfl)) (hw _ (gw 3 rfl)) (by decide) (by decide)) q117a q117c (g := (mkF m 87 #[.val (.int p0), .val (.int p1), .val (.int p2), .val (.int p3), .val (.int p4), .val (.int p5), .val (.int v6), .val (.int v12), .val (.int v18), .val (.int v24), .val (.int v31), .val (.ref b33), .unset, .unset, .unset, .unset, .unset] [(.ref b74), (.ref b33)])) rfl (by rw [hml]; rfl) (Steps.refl _) (argsL := [(.ref b74)]) (rest := []) (lenOf law3_pd2 rfl) rfl (by show 2 * 0 + _ ≤ _; exact Nat.le_of_eq rfl) (hb hby at_87) (fun _ _ => ⟨rfl, e103, (by decide : 8 + 0 ≤ _), (by decide : 39 + 0 ≤ _)⟩)
  dsimp only [Pt.U, Pt.locs, Pt.cells, Pt.slots] at X117 l117 y117 z117 st117 hQ117
  rw [l117, y117, z117] at X117
  obtain ⟨h117, e117⟩ : ∃ z, T117.heap = z := ⟨_, rfl⟩
  rw [e117] at hQ117
  obtain ⟨rfl, N117q, Kq117, F118, F119, F120, F121, F122⟩ := hQ117
  have N117 := Fr.app N103 N117q
  have Z117 : n0 ≤ h117.size := Nat.le_trans Z103 Kq117.1
  have Y117 : k86 ≤ h117.size := Nat.le_trans Y103 Kq117.1
  have F123 := F107.keep Kq117 (ninS ne_dce_b33 (ninS ne_dce_ed nin0))
  have F124 := own_keepS F108 Kq117 (allS (own_plE F109) (allS (own_plR F116) all0))
  have F125 := F113.keep Kq117
  have F126 := F114.keep Kq117 (ninS (Ne.symm ne_b33_b49) (ninS ne_b49_ed nin0))
  have F127 := F115.keep Kq117 (ninS (Ne.symm ne_b33_b49) (ninS ne_b49_ed nin0))
  have F128 := F104.keep Kq117
  have F129 := F105.keep Kq117 (ninS (Ne.symm ne_b33_b74) (ninS (Ne.symm ne_ed_b74) nin0))
  have F130 := F106.keep Kq117 (ninS (Ne.symm ne_b33_b74) (ninS (Ne.symm ne_ed_b74) nin0))
  obtain ⟨T131, h131, X131, e131, E131, A131, D131, -, st131⟩ := newO X117 hx hZ hown (hw _ (gw 57 rfl)) (hw _ (gw 58 rfl)) (hw _ (gw 59 rfl)) e117 (g := (mkF m 99 #[.val (.int p0), .val (.int p1), .val (.int p2), .val (.int p3), .val (.int p4), .val (.int p5), .val (.int v6), .val (.int v12), .val (.int v18), .val (.int v24), .val (.int v31), .val (.ref b33), .unset, .unset, .unset, .unset, .unset] [(.ref b33)])) rfl (hb hby at_99) (by decide) (by decide)
  obtain ⟨b99, g131⟩ : ∃ z, z = h117.size := ⟨_, rfl⟩
  have g_b99 : n0 ≤ b99 := Nat.le_trans Z117 (Nat.le_of_eq g131.symm)
  have ne_dce_b99 : dce ≠ b99 := Nat.ne_of_lt (Nat.lt_of_lt_of_le F123.lt (Nat.le_of_eq g131.symm))
  have ne_b33_b99 : b33 ≠ b99 := Nat.ne_of_lt (Nat.lt_of_lt_of_le F118.lt (Nat.le_of_eq g131.symm))
  have ne_b49_b99 : b49 ≠ b99 := Nat.ne_of_lt (Nat.lt_of_lt_of_le F125.lt (Nat.le_of_eq g131.symm))
  have ne_ed_b99 : ed ≠ b99 := Nat.ne_of_lt (Nat.lt_of_lt_of_le F122.lt (Nat.le_of_eq g131.symm))
  have ne_b74_b99 : b74 ≠ b99 := Nat.ne_of_lt (Nat.lt_of_lt_of_le F128.lt (Nat.le_of_eq g131.symm))
  rw [← g131] at A131 D131 st131
  have Z131 : n0 ≤ h131.size := Nat.le_trans Z117 E131.1
  have Y131 : k86 ≤ h131.size := Nat.le_trans Y117 E131.1
  have F132 := F123.ext E131
  have F133 := Sta.ext E131 F124
  have F134 := Exa.ext E131 F118
  have F135 := Fld.ext E131 F119
  have F136 := Fld.ext E131 F120
  have F137 := Fld.ext E131 F121
  have F138 := Exa.ext E131 F125
  have F139 := Fld.ext E131 F126
  have F140 := Fld.ext E131 F127
  have F141 := F122.ext E131
  have F142 := Exa.ext E131 F128
  have F143 := Fld.ext E131 F129
  have F144 := Fld.ext E131 F130
  have F145 : Fld Z h131 b99 "com/example/termwright/termwright/Commit$Segment" "name" "Ljava/lang/String;" .null := D131 (Or.inr (hw _ (gw 81 rfl))) (ty := (.object "java/lang/String")) (by decide)
  have F146 : Fld Z h131 b99 "com/example/termwright/termwright/Commit$Segment" "documentCount" "I" (.int (0 : Int32)) := D131 (Or.inr (hw _ (gw 83 rfl))) (ty := .int) (by decide)
  have F147 : Fld Z h131 b99 "com/example/termwright/termwright/Commit$Segment" "length" "J" (.long (0 : Int64)) := D131 (Or.inr (hw _ (gw 85 rfl))) (ty := .long) (by decide)
  have F148 : Fld Z h131 b99 "com/example/termwright/termwright/Commit$Segment" "checksum" "I" (.int (0 : Int32)) := D131 (Or.inr (hw _ (gw 87 rfl))) (ty := .int) (by decide)
  have F149 : Fld Z h131 b99 "com/example/termwright/termwright/Commit$Segment" "deletions" "Lcom/example/termwright/termwright/Commit$DeletionsFile;" .null := D131 (Or.inr (hw _ (gw 89 rfl))) (ty := (.object "com/example/termwright/termwright/Commit$DeletionsFile")) (by decide)
  obtain ⟨lit103, T150, h150, k150, X150, e150, E150, hS150, hk150, hZ, hown, st150⟩ := ldcS X131 hx hZ hown (hw _ (gw 60 rfl)) hstr e131 hS86 Y131 (g := (mkF m 103 #[.val (.int p0), .val (.int p1), .val (.int p2), .val (.int p3), .val (.int p4), .val (.int p5), .val (.int v6), .val (.int v12), .val (.int v18), .val (.int v24), .val (.int v31), .val (.ref b33), .unset, .unset, .unset, .unset, .unset] [(.ref b99), (.ref b99), (.ref b33)])) rfl (hb hby at_103) (n := 4) (by decide) (by decide) (by decide) (by decide)
  have Z150 : n0 ≤ h150.size := Nat.le_trans Z131 E150.1
  have F151 := F132.ext E150
  have F152 := Sta.ext E150 F133
  have F153 := Exa.ext E150 F134
  have F154 := Fld.ext E150 F135
  have F155 := Fld.ext E150 F136
  have F156 := Fld.ext E150 F137
  have F157 := Exa.ext E150 F138
  have F158 := Fld.ext E150 F139
  have F159 := Fld.ext E150 F140
  have F160 := F141.ext E150
  have F161 := Exa.ext E150 F142
  have F162 := Fld.ext E150 F143
  have F163 := Fld.ext E150 F144
  have F164 := Exa.ext E150 A131
  have F165 := Fld.ext E150 F145
  have F166 := Fld.ext E150 F146
  have F167 := Fld.ext E150 F147
  have F168 := Fld.ext E150 F148
  have F169 := Fld.ext E150 F149
  obtain ⟨_, _, ⟨T170, L170, k170, n170⟩, -, X170, ⟨Lc170, hQ170, l170, y170, z170⟩, st170⟩ := X150.specialBack hx (y := (⟨"com/example/termwright/termwright/Commit$Segment", "<init>", "(Ljava/lang/String;IJI)V"⟩ : MethodName)) rfl hown (mvT hZ (hw _ (gw 68 rfl))) (mvT hZ (hw _ (gw 69 rfl))) (mvT hZ (hw _ (gw 70 rfl))) (by decide) (backOf (W := 2) (rm_sgo l Z a0 hw [] b99 lit103 v24 (0 : Int64) (0 : Int32) _ _ _ _ _ h150 n0 Z150 F164 F165 F166 F167 F168 F169 g_b99) hZ (hw _ (gw 70 rfl)) (hw _ (gw 59 rfl)) (by decide) (by decide)) (g := (mkF m 109 #[.val (.int p0), .val (.int p1), .val (.int p2), .val (.int p3), .val (.int p4), .val (.int p5), .val (.int v6), .val (.int v12), .val (.int v18), .val (.int v24), .val (.int v31), .val (.ref b33), .unset, .unset, .unset, .unset, .unset] [(.int (0 : Int32)), (.long (0 : Int64)), (.int v24), (.ref lit103), (.ref b99), (.ref b99), (.ref b33)])) rfl (by rw [hml]; rfl) (Steps.refl _) (a := b99) (argsL := [(.ref lit103), (.int v24), (.long (0 : Int64)), (.int (0 : Int32))]) (rest := [(.ref b99), (.ref b33)]) (lenOf law3_pd1 rfl) rfl (by show 2 * 0 + _ ≤ _; exact Nat.le_of_eq rfl) (hb hby at_109) (fun _ _ => ⟨rfl, e150, (by decide : 11 + 0 ≤ _), (by decide : 52 + 0 ≤ _)⟩)
  dsimp only [Pt.U, Pt.locs, Pt.cells, Pt.slots] at X170 l170 y170 z170 st170 hQ170
  rw [l170, y170, z170] at X170
  obtain ⟨h170, e170⟩ : ∃ z, T170.heap = z := ⟨_, rfl⟩
  rw [e170] at hQ170
  obtain ⟨rfl, N170q, Kq170, F171, F172, F173⟩ := hQ170
  have N170 := Fr.app N117 N170q
  have Z170 : n0 ≤ h170.size := Nat.le_trans Z150 Kq170.1
  have Y170 : k150 ≤ h170.size := Nat.le_trans hk150 Kq170.1
  have F174 := F151.keep Kq170 (ninS ne_dce_b99 nin0)
  have F175 := own_keepS F152 Kq170 (allS (own_plE F164) all0)
  have F176 := F153.keep Kq170
  have F177 := F154.keep Kq170 (ninS ne_b33_b99 nin0)
  have F178 := F155.keep Kq170 (ninS ne_b33_b99 nin0)
  have F179 := F156.keep Kq170 (ninS ne_b33_b99 nin0)
  have F180 := F157.keep Kq170
  have F181 := F158.keep Kq170 (ninS ne_b49_b99 nin0)
  have F182 := F159.keep Kq170 (ninS ne_b49_b99 nin0)
  have F183 := F160.keep Kq170 (ninS ne_ed_b99 nin0)
  have F184 := F161.keep Kq170
  have F185 := F162.keep Kq170 (ninS ne_b74_b99 nin0)
  have F186 := F163.keep Kq170 (ninS ne_b74_b99 nin0)
  obtain ⟨cq187, kq187, q187a, q187b, q187c⟩ := isOf hZ e170 F176
  obtain ⟨_, _, ⟨T187, L187, k187, n187⟩, -, X187, ⟨Lc187, hQ187, l187, y187, z187⟩, st187⟩ := X170.virtualBack hx (y := (⟨"java/util/ArrayList", "add", "(Ljava/lang/Object;)Z"⟩ : MethodName)) (z := (⟨"java/util/ArrayList", "add", "(Ljava/lang/Object;)Z"⟩ : MethodName)) hown (mvT hZ (hw _ (gw 90 rfl))) (mvT hZ (hw _ (gw 91 rfl))) (notFace_of_selects (args := #[]) (mvT hZ (hw _ (gw 93 rfl)))) (mvT hZ (hw _ (gw 93 rfl))) (mvT hZ (hw _ (gw 92 rfl))) (by decide) (backOf (W := 0) (rm_adb l Z a0 hw [] b33 b99 (2 : Int32) ed (((0 : Int32) + (1 : Int32)) + (1 : Int32)) (3 : Int32) (updV (updV (fun _ => .null) 0 (.ref b49)) 1 (.ref b74)) 2 h170 n0 Z170 F176 F177 F178 F179 F183 F171 g_b33 g_ed ne_b33_ed ne_b33_b99 ne_ed_b99 (by decide) (by decide) (by decide) (by decide) (by decide)) hZ (hw _ (gw 94 rfl)) (hw _ (gw 3 rfl)) (by decide) (by decide)) q187a q187c (g := (mkF m 112 #[.val (.int p0), .val (.int p1), .val (.int p2), .val (.int p3), .val (.int p4), .val (.int p5), .val (.int v6), .val (.int v12), .val (.int v18), .val (.int v24), .val (.int v31), .val (.ref b33), .unset, .unset, .unset, .unset, .unset] [(.ref b99), (.ref b33)])) rfl (by rw [hml]; rfl) (Steps.refl _) (argsL := [(.ref b99)]) (rest := []) (lenOf law3_pd2 rfl) rfl (by show 2 * 0 + _ ≤ _; exact Nat.le_of_eq rfl) (hb hby at_112) (fun _ _ => ⟨rfl, e170, (by decide : 11 + 0 ≤ _), (by decide : 52 + 0 ≤ _)⟩)
  dsimp only [Pt.U, Pt.locs, Pt.cells, Pt.slots] at X187 l187 y187 z187 st187 hQ187
  rw [l187, y187, z187] at X187
  obtain ⟨h187, e187⟩ : ∃ z, T187.heap = z := ⟨_, rfl⟩
  rw [e187] at hQ187
  obtain ⟨rfl, N187q, Kq187, F188, F189, F190, F191, F192⟩ := hQ187
  have N187 := Fr.app N170 N187q
  have Z187 : n0 ≤ h187.size := Nat.le_trans Z170 Kq187.1
  have Y187 : k150 ≤ h187.size := Nat.le_trans Y170 Kq187.1
  have F193 := F174.keep Kq187 (ninS ne_dce_b33 (ninS ne_dce_ed nin0))
  have F194 := own_keepS F175 Kq187 (allS (own_plE F176) (allS (own_plR F183) all0))
  have F195 := F180.keep Kq187
  have F196 := F181.keep Kq187 (ninS (Ne.symm ne_b33_b49) (ninS ne_b49_ed nin0))
  have F197 := F182.keep Kq187 (ninS (Ne.symm ne_b33_b49) (ninS ne_b49_ed nin0))
  have F198 := F184.keep Kq187
  have F199 := F185.keep Kq187 (ninS (Ne.symm ne_b33_b74) (ninS (Ne.symm ne_ed_b74) nin0))
  have F200 := F186.keep Kq187 (ninS (Ne.symm ne_b33_b74) (ninS (Ne.symm ne_ed_b74) nin0))
  have F201 := F171.keep Kq187
  have F202 := F172.keep Kq187 (ninS (Ne.symm ne_b33_b99) (ninS (Ne.symm ne_ed_b99) nin0))
  have F203 := F173.keep Kq187 (ninS (Ne.symm ne_b33_b99) (ninS (Ne.symm ne_ed_b99) nin0))
  obtain ⟨T204, h204, X204, e204, E204, A204, D204, -, st204⟩ := newO X187 hx hZ hown (hw _ (gw 27 rfl)) (hw _ (gw 28 rfl)) (hw _ (gw 29 rfl)) e187 (g := (mkF m 141 #[.val (.int p0), .val (.int p1), .val (.int p2), .val (.int p3), .val (.int p4), .val (.int p5), .val (.int v6), .val (.int v12), .val (.int v18), .val (.int v24), .val (.int v31), .val (.ref b33), .unset, .unset, .unset, .unset, .unset] [])) rfl (hb hby at_141) (by decide) (by decide)
  obtain ⟨b141, g204⟩ : ∃ z, z = h187.size := ⟨_, rfl⟩
  have g_b141 : n0 ≤ b141 := Nat.le_trans Z187 (Nat.le_of_eq g204.symm)
  have ne_dce_b141 : dce ≠ b141 := Nat.ne_of_lt (Nat.lt_of_lt_of_le F193.lt (Nat.le_of_eq g204.symm))
  have ne_b33_b141 : b33 ≠ b141 := Nat.ne_of_lt (Nat.lt_of_lt_of_le F188.lt (Nat.le_of_eq g204.symm))
  have ne_b49_b141 : b49 ≠ b141 := Nat.ne_of_lt (Nat.lt_of_lt_of_le F195.lt (Nat.le_of_eq g204.symm))
  have ne_ed_b141 : ed ≠ b141 := Nat.ne_of_lt (Nat.lt_of_lt_of_le F192.lt (Nat.le_of_eq g204.symm))
  have ne_b74_b141 : b74 ≠ b141 := Nat.ne_of_lt (Nat.lt_of_lt_of_le F198.lt (Nat.le_of_eq g204.symm))
  have ne_b99_b141 : b99 ≠ b141 := Nat.ne_of_lt (Nat.lt_of_lt_of_le F201.lt (Nat.le_of_eq g204.symm))
  rw [← g204] at A204 D204 st204
  have Z204 : n0 ≤ h204.size := Nat.le_trans Z187 E204.1
  have Y204 : k150 ≤ h204.size := Nat.le_trans Y187 E204.1
  have F205 := F193.ext E204
  have F206 := Sta.ext E204 F194
  have F207 := Exa.ext E204 F188
  have F208 := Fld.ext E204 F189
  have F209 := Fld.ext E204 F190
  have F210 := Fld.ext E204 F191
  have F211 := Exa.ext E204 F195
  have F212 := Fld.ext E204 F196
  have F213 := Fld.ext E204 F197
  have F214 := F192.ext E204
  have F215 := Exa.ext E204 F198
  have F216 := Fld.ext E204 F199
  have F217 := Fld.ext E204 F200
  have F218 := Exa.ext E204 F201
  have F219 := Fld.ext E204 F202
  have F220 := Fld.ext E204 F203
  have F221 : Fld Z h204 b141 "com/example/termwright/termwright/DocumentNumbers" "bases" "[I" .null := D204 (Or.inr (hw _ (gw 47 rfl))) (ty := (.array .int)) (by decide)
  have F222 : Fld Z h204 b141 "com/example/termwright/termwright/DocumentNumbers" "count" "I" (.int (0 : Int32)) := D204 (Or.inr (hw _ (gw 49 rfl))) (ty := .int) (by decide)
  have F223 : Fld Z h204 b141 "com/example/termwright/termwright/DocumentNumbers" "deletedCount" "I" (.int (0 : Int32)) := D204 (Or.inr (hw _ (gw 51 rfl))) (ty := .int) (by decide)
  obtain ⟨_, _, ⟨T224, L224, k224, n224⟩, -, X224, ⟨Lc224, hQ224, l224, y224, z224⟩, st224⟩ := X204.specialBack hx (y := (⟨"com/example/termwright/termwright/DocumentNumbers", "<init>", "(Ljava/util/List;)V"⟩ : MethodName)) rfl hown (mvT hZ (hw _ (gw 30 rfl))) (mvT hZ (hw _ (gw 31 rfl))) (mvT hZ (hw _ (gw 32 rfl))) (by decide) (backOf (W := 1) (rm_dn3 l Z a0 hw [] b141 b33 _ _ _ ed b49 b74 b99 (updV (updV (updV (fun _ => .null) 0 (.ref b49)) 1 (.ref b74)) 2 (.ref b99)) v12 v18 v24 h204 n0 Z204 A204 F221 F222 F223 F207 F210 F209 F214 F211 F212 F213 F215 F216 F217 F218 F219 F220 g_b141 (Ne.symm ne_b33_b141) (Ne.symm ne_ed_b141) (Ne.symm ne_b49_b141) (Ne.symm ne_b74_b141) (Ne.symm ne_b99_b141) (by simp [updV]) (by simp [updV]) (by simp [updV]) (own_no0 hv12) (own_no1 hv12 hv18) (own_no2 hv12 hv18 hv24)) hZ (hw _ (gw 32 rfl)) (hw _ (gw 29 rfl)) (by decide) (by decide)) (g := (mkF m 147 #[.val (.int p0), .val (.int p1), .val (.int p2), .val (.int p3), .val (.int p4), .val (.int p5), .val (.int v6), .val (.int v12), .val (.int v18), .val (.int v24), .val (.int v31), .val (.ref b33), .unset, .unset, .unset, .unset, .unset] [(.ref b33), (.ref b141), (.ref b141)])) rfl (by rw [hml]; rfl) (Steps.refl _) (a := b141) (argsL := [(.ref b33)]) (rest := [(.ref b141)]) (lenOf law3_pd3 rfl) rfl (by show 2 * 0 + _ ≤ _; exact Nat.le_of_eq rfl) (hb hby at_147) (fun _ _ => ⟨rfl, e204, (by decide : 12 + 1 ≤ _), (by decide : 55 + 3 ≤ _)⟩)
  dsimp only [Pt.U, Pt.locs, Pt.cells, Pt.slots] at X224 l224 y224 z224 st224 hQ224
  rw [l224, y224, z224] at X224
  obtain ⟨h224, e224⟩ : ∃ z, T224.heap = z := ⟨_, rfl⟩
  rw [e224] at hQ224
  obtain ⟨bb, rfl, N224q, Kq224, gs_bb, F225, F226, F227⟩ := hQ224
  have N224 := Fr.app N187 N224q
  have g_bb : n0 ≤ bb := Nat.le_trans Z204 gs_bb
  have ne_dce_bb : dce ≠ bb := Nat.ne_of_lt (Nat.lt_of_lt_of_le F205.lt gs_bb)
  have ne_b33_bb : b33 ≠ bb := Nat.ne_of_lt (Nat.lt_of_lt_of_le F207.lt gs_bb)
  have ne_b49_bb : b49 ≠ bb := Nat.ne_of_lt (Nat.lt_of_lt_of_le F211.lt gs_bb)
  have ne_ed_bb : ed ≠ bb := Nat.ne_of_lt (Nat.lt_of_lt_of_le F214.lt gs_bb)
  have ne_b74_bb : b74 ≠ bb := Nat.ne_of_lt (Nat.lt_of_lt_of_le F215.lt gs_bb)
  have ne_b99_bb : b99 ≠ bb := Nat.ne_of_lt (Nat.lt_of_lt_of_le F218.lt gs_bb)
  have ne_b141_bb : b141 ≠ bb := Nat.ne_of_lt (Nat.lt_of_lt_of_le A204.lt gs_bb)
  have Z224 : n0 ≤ h224.size := Nat.le_trans Z204 Kq224.1
  have Y224 : k150 ≤ h224.size := Nat.le_trans Y204 Kq224.1
  have F228 := F205.keep Kq224 (ninS ne_dce_b141 nin0)
  have F229 := own_keepS F206 Kq224 (allS (own_plE A204) all0)
  have F230 := F207.keep Kq224
  have F231 := F208.keep Kq224 (ninS ne_b33_b141 nin0)
  have F232 := F209.keep Kq224 (ninS ne_b33_b141 nin0)
  have F233 := F210.keep Kq224 (ninS ne_b33_b141 nin0)
  have F234 := F211.keep Kq224
  have F235 := F212.keep Kq224 (ninS ne_b49_b141 nin0)
  have F236 := F213.keep Kq224 (ninS ne_b49_b141 nin0)
  have F237 := F214.keep Kq224 (ninS ne_ed_b141 nin0)
  have F238 := F215.keep Kq224
  have F239 := F216.keep Kq224 (ninS ne_b74_b141 nin0)
  have F240 := F217.keep Kq224 (ninS ne_b74_b141 nin0)
  have F241 := F218.keep Kq224
  have F242 := F219.keep Kq224 (ninS ne_b99_b141 nin0)
  have F243 := F220.keep Kq224 (ninS ne_b99_b141 nin0)
  have K244 : ∀ t, Steps p.tables e below (T224.setTop (mkF m 163 #[.val (.int p0), .val (.int p1), .val (.int p2), .val (.int p3), .val (.int p4), .val (.int p5), .val (.int v6), .val (.int v12), .val (.int v18), .val (.int v24), .val (.int v31), .val (.ref b33), .val (.ref b141), .val (.int v12), .val (.int (v12 + v18)), .unset, .unset] [])) t → P0 t := by
    intro t kt
    refine K10 t ?_
    show Steps p.tables e below (s₁.setTop (mkF m 33 #[.val (.int p0), .val (.int p1), .val (.int p2), .val (.int p3), .val (.int p4), .val (.int p5), .val (.int v6), .val (.int v12), .val (.int v18), .val (.int v24), .val (.int v31), .unset, .unset, .unset, .unset, .unset, .unset] [])) t
    refine st11 _ ?_
    show Steps p.tables e below (T11.setTop (mkF m 36 #[.val (.int p0), .val (.int p1), .val (.int p2), .val (.int p3), .val (.int p4), .val (.int p5), .val (.int v6), .val (.int v12), .val (.int v18), .val (.int v24), .val (.int v31), .unset, .unset, .unset, .unset, .unset, .unset] [(.ref b33)])) t
    refine XS.dup X11.here hx rfl (hb hby at_36) rfl rfl ?_
    show Steps p.tables e below (T11.setTop (mkF m 37 #[.val (.int p0), .val (.int p1), .val (.int p2), .val (.int p3), .val (.int p4), .val (.int p5), .val (.int v6), .val (.int v12), .val (.int v18), .val (.int v24), .val (.int v31), .unset, .unset, .unset, .unset, .unset, .unset] [(.ref b33), (.ref b33)])) t
    refine st17.trans ?_
    show Steps p.tables e below (T17.setTop (mkF m 40 #[.val (.int p0), .val (.int p1), .val (.int p2), .val (.int p3), .val (.int p4), .val (.int p5), .val (.int v6), .val (.int v12), .val (.int v18), .val (.int v24), .val (.int v31), .unset, .unset, .unset, .unset, .unset, .unset] [(.ref b33)])) t
    refine XS.astore X17.here hx rfl (hb hby at_40) rfl rfl (l' := #[.val (.int p0), .val (.int p1), .val (.int p2), .val (.int p3), .val (.int p4), .val (.int p5), .val (.int v6), .val (.int v12), .val (.int v18), .val (.int v24), .val (.int v31), .val (.ref b33), .unset, .unset, .unset, .unset, .unset]) rfl ?_
    refine XS.iload X17.here hx rfl (hb hby at_42) rfl ?_
    show Steps p.tables e below (T17.setTop (mkF m 44 #[.val (.int p0), .val (.int p1), .val (.int p2), .val (.int p3), .val (.int p4), .val (.int p5), .val (.int v6), .val (.int v12), .val (.int v18), .val (.int v24), .val (.int v31), .val (.ref b33), .unset, .unset, .unset, .unset, .unset] [(.int v6)])) t
    refine XS.ifNo X17.here hx rfl (hb hby at_44) rfl ((if0 _ _).trans (tlt (by rw [hv6, hn]; decide)).2.2.2) ?_
    refine XS.aload X17.here hx rfl (hb hby at_47) rfl rfl ?_
    show Steps p.tables e below (T17.setTop (mkF m 49 #[.val (.int p0), .val (.int p1), .val (.int p2), .val (.int p3), .val (.int p4), .val (.int p5), .val (.int v6), .val (.int v12), .val (.int v18), .val (.int v24), .val (.int v31), .val (.ref b33), .unset, .unset, .unset, .unset, .unset] [(.ref b33)])) t
    refine st24 _ ?_
    show Steps p.tables e below (T24.setTop (mkF m 52 #[.val (.int p0), .val (.int p1), .val (.int p2), .val (.int p3), .val (.int p4), .val (.int p5), .val (.int v6), .val (.int v12), .val (.int v18), .val (.int v24), .val (.int v31), .val (.ref b33), .unset, .unset, .unset, .unset, .unset] [(.ref b49), (.ref b33)])) t
    refine XS.dup X24.here hx rfl (hb hby at_52) rfl rfl ?_
    show Steps p.tables e below (T24.setTop (mkF m 53 #[.val (.int p0), .val (.int p1), .val (.int p2), .val (.int p3), .val (.int p4), .val (.int p5), .val (.int v6), .val (.int v12), .val (.int v18), .val (.int v24), .val (.int v31), .val (.ref b33), .unset, .unset, .unset, .unset, .unset] [(.ref b49), (.ref b49), (.ref b33)])) t
    refine st36 _ ?_
    refine XS.iload X36.here hx rfl (hb hby at_55) rfl ?_
    refine XS.lconst X36.here hx rfl (hb hby at_57) ?_
    refine XS.iconst X36.here hx rfl (hb hby at_58) ?_
    show Steps p.tables e below (T36.setTop (mkF m 59 #[.val (.int p0), .val (.int p1), .val (.int p2), .val (.int p3), .val (.int p4), .val (.int p5), .val (.int v6), .val (.int v12), .val (.int v18), .val (.int v24), .val (.int v31), .val (.ref b33), .unset, .unset, .unset, .unset, .unset] [(.int (0 : Int32)), (.long (0 : Int64)), (.int v12), (.ref lit53), (.ref b49), (.ref b49), (.ref b33)])) t
    refine st49.trans ?_
    show Steps p.tables e below (T49.setTop (mkF m 62 #[.val (.int p0), .val (.int p1), .val (.int p2), .val (.int p3), .val (.int p4), .val (.int p5), .val (.int v6), .val (.int v12), .val (.int v18), .val (.int v24), .val (.int v31), .val (.ref b33), .unset, .unset, .unset, .unset, .unset] [(.ref b49), (.ref b33)])) t
    refine st59.trans ?_
    show Steps p.tables e below (T59.setTop (mkF m 65 #[.val (.int p0), .val (.int p1), .val (.int p2), .val (.int p3), .val (.int p4), .val (.int p5), .val (.int v6), .val (.int v12), .val (.int v18), .val (.int v24), .val (.int v31), .val (.ref b33), .unset, .unset, .unset, .unset, .unset] [(.int (nar .boolean (1 : Int32)))])) t
    refine XS.pop X59.here hx rfl (hb hby at_65) rfl rfl ?_
    refine XS.iload X59.here hx rfl (hb hby at_66) rfl ?_
    refine XS.iconst X59.here hx rfl (hb hby at_68) ?_
    show Steps p.tables e below (T59.setTop (mkF m 69 #[.val (.int p0), .val (.int p1), .val (.int p2), .val (.int p3), .val (.int p4), .val (.int p5), .val (.int v6), .val (.int v12), .val (.int v18), .val (.int v24), .val (.int v31), .val (.ref b33), .unset, .unset, .unset, .unset, .unset] [(.int (1 : Int32)), (.int v6)])) t
    refine XS.icmpNo X59.here hx rfl (hb hby at_69) rfl (tlt (by rw [hv6, hn]; decide)).2.2.2 ?_
    refine XS.aload X59.here hx rfl (hb hby at_72) rfl rfl ?_
    show Steps p.tables e below (T59.setTop (mkF m 74 #[.val (.int p0), .val (.int p1), .val (.int p2), .val (.int p3), .val (.int p4), .val (.int p5), .val (.int v6), .val (.int v12), .val (.int v18), .val (.int v24), .val (.int v31), .val (.ref b33), .unset, .unset, .unset, .unset, .unset] [(.ref b33)])) t
    refine st70 _ ?_
    show Steps p.tables e below (T70.setTop (mkF m 77 #[.val (.int p0), .val (.int p1), .val (.int p2), .val (.int p3), .val (.int p4), .val (.int p5), .val (.int v6), .val (.int v12), .val (.int v18), .val (.int v24), .val (.int v31), .val (.ref b33), .unset, .unset, .unset, .unset, .unset] [(.ref b74), (.ref b33)])) t
    refine XS.dup X70.here hx rfl (hb hby at_77) rfl rfl ?_
    show Steps p.tables e below (T70.setTop (mkF m 78 #[.val (.int p0), .val (.int p1), .val (.int p2), .val (.int p3), .val (.int p4), .val (.int p5), .val (.int v6), .val (.int v12), .val (.int v18), .val (.int v24), .val (.int v31), .val (.ref b33), .unset, .unset, .unset, .unset, .unset] [(.ref b74), (.ref b74), (.ref b33)])) t
    refine st86 _ ?_
    refine XS.iload X86.here hx rfl (hb hby at_80) rfl ?_
    refine XS.lconst X86.here hx rfl (hb hby at_82) ?_
    refine XS.iconst X86.here hx rfl (hb hby at_83) ?_
    show Steps p.tables e below (T86.setTop (mkF m 84 #[.val (.int p0), .val (.int p1), .val (.int p2), .val (.int p3), .val (.int p4), .val (.int p5), .val (.int v6), .val (.int v12), .val (.int v18), .val (.int v24), .val (.int v31), .val (.ref b33), .unset, .unset, .unset, .unset, .unset] [(.int (0 : Int32)), (.long (0 : Int64)), (.int v18), (.ref lit78), (.ref b74), (.ref b74), (.ref b33)])) t
    refine st103.trans ?_
    show Steps p.tables e below (T103.setTop (mkF m 87 #[.val (.int p0), .val (.int p1), .val (.int p2), .val (.int p3), .val (.int p4), .val (.int p5), .val (.int v6), .val (.int v12), .val (.int v18), .val (.int v24), .val (.int v31), .val (.ref b33), .unset, .unset, .unset, .unset, .unset] [(.ref b74), (.ref b33)])) t
    refine st117.trans ?_
    show Steps p.tables e below (T117.setTop (mkF m 90 #[.val (.int p0), .val (.int p1), .val (.int p2), .val (.int p3), .val (.int p4), .val (.int p5), .val (.int v6), .val (.int v12), .val (.int v18), .val (.int v24), .val (.int v31), .val (.ref b33), .unset, .unset, .unset, .unset, .unset] [(.int (nar .boolean (1 : Int32)))])) t
    refine XS.pop X117.here hx rfl (hb hby at_90) rfl rfl ?_
    refine XS.iload X117.here hx rfl (hb hby at_91) rfl ?_
    refine XS.iconst X117.here hx rfl (hb hby at_93) ?_
    show Steps p.tables e below (T117.setTop (mkF m 94 #[.val (.int p0), .val (.int p1), .val (.int p2), .val (.int p3), .val (.int p4), .val (.int p5), .val (.int v6), .val (.int v12), .val (.int v18), .val (.int v24), .val (.int v31), .val (.ref b33), .unset, .unset, .unset, .unset, .unset] [(.int (2 : Int32)), (.int v6)])) t
    refine XS.icmpNo X117.here hx rfl (hb hby at_94) rfl (tlt (by rw [hv6, hn]; decide)).2.2.2 ?_
    refine XS.aload X117.here hx rfl (hb hby at_97) rfl rfl ?_
    show Steps p.tables e below (T117.setTop (mkF m 99 #[.val (.int p0), .val (.int p1), .val (.int p2), .val (.int p3), .val (.int p4), .val (.int p5), .val (.int v6), .val (.int v12), .val (.int v18), .val (.int v24), .val (.int v31), .val (.ref b33), .unset, .unset, .unset, .unset, .unset] [(.ref b33)])) t
    refine st131 _ ?_
    show Steps p.tables e below (T131.setTop (mkF m 102 #[.val (.int p0), .val (.int p1), .val (.int p2), .val (.int p3), .val (.int p4), .val (.int p5), .val (.int v6), .val (.int v12), .val (.int v18), .val (.int v24), .val (.int v31), .val (.ref b33), .unset, .unset, .unset, .unset, .unset] [(.ref b99), (.ref b33)])) t
    refine XS.dup X131.here hx rfl (hb hby at_102) rfl rfl ?_
    show Steps p.tables e below (T131.setTop (mkF m 103 #[.val (.int p0), .val (.int p1), .val (.int p2), .val (.int p3), .val (.int p4), .val (.int p5), .val (.int v6), .val (.int v12), .val (.int v18), .val (.int v24), .val (.int v31), .val (.ref b33), .unset, .unset, .unset, .unset, .unset] [(.ref b99), (.ref b99), (.ref b33)])) t
    refine st150 _ ?_
    refine XS.iload X150.here hx rfl (hb hby at_105) rfl ?_
    refine XS.lconst X150.here hx rfl (hb hby at_107) ?_
    refine XS.iconst X150.here hx rfl (hb hby at_108) ?_
    show Steps p.tables e below (T150.setTop (mkF m 109 #[.val (.int p0), .val (.int p1), .val (.int p2), .val (.int p3), .val (.int p4), .val (.int p5), .val (.int v6), .val (.int v12), .val (.int v18), .val (.int v24), .val (.int v31), .val (.ref b33), .unset, .unset, .unset, .unset, .unset] [(.int (0 : Int32)), (.long (0 : Int64)), (.int v24), (.ref lit103), (.ref b99), (.ref b99), (.ref b33)])) t
    refine st170.trans ?_
    show Steps p.tables e below (T170.setTop (mkF m 112 #[.val (.int p0), .val (.int p1), .val (.int p2), .val (.int p3), .val (.int p4), .val (.int p5), .val (.int v6), .val (.int v12), .val (.int v18), .val (.int v24), .val (.int v31), .val (.ref b33), .unset, .unset, .unset, .unset, .unset] [(.ref b99), (.ref b33)])) t
    refine st187.trans ?_
    show Steps p.tables e below (T187.setTop (mkF m 115 #[.val (.int p0), .val (.int p1), .val (.int p2), .val (.int p3), .val (.int p4), .val (.int p5), .val (.int v6), .val (.int v12), .val (.int v18), .val (.int v24), .val (.int v31), .val (.ref b33), .unset, .unset, .unset, .unset, .unset] [(.int (nar .boolean (1 : Int32)))])) t
    refine XS.pop X187.here hx rfl (hb hby at_115) rfl rfl ?_
    refine XS.iload X187.here hx rfl (hb hby at_116) rfl ?_
    refine XS.iconst X187.here hx rfl (hb hby at_118) ?_
    show Steps p.tables e below (T187.setTop (mkF m 119 #[.val (.int p0), .val (.int p1), .val (.int p2), .val (.int p3), .val (.int p4), .val (.int p5), .val (.int v6), .val (.int v12), .val (.int v18), .val (.int v24), .val (.int v31), .val (.ref b33), .unset, .unset, .unset, .unset, .unset] [(.int (3 : Int32)), (.int v6)])) t
    refine XS.icmpYes X187.here hx rfl (pc0 := 119) (pc' := 141) rfl (hb hby at_119) rfl (flt (by rw [hv6, hn]; decide)).2.2.2 (by decide) (by decide) ?_
    show Steps p.tables e below (T187.setTop (mkF m 141 #[.val (.int p0), .val (.int p1), .val (.int p2), .val (.int p3), .val (.int p4), .val (.int p5), .val (.int v6), .val (.int v12), .val (.int v18), .val (.int v24), .val (.int v31), .val (.ref b33), .unset, .unset, .unset, .unset, .unset] [])) t
    refine st204 _ ?_
    show Steps p.tables e below (T204.setTop (mkF m 144 #[.val (.int p0), .val (.int p1), .val (.int p2), .val (.int p3), .val (.int p4), .val (.int p5), .val (.int v6), .val (.int v12), .val (.int v18), .val (.int v24), .val (.int v31), .val (.ref b33), .unset, .unset, .unset, .unset, .unset] [(.ref b141)])) t
    refine XS.dup X204.here hx rfl (hb hby at_144) rfl rfl ?_
    refine XS.aload X204.here hx rfl (hb hby at_145) rfl rfl ?_
    show Steps p.tables e below (T204.setTop (mkF m 147 #[.val (.int p0), .val (.int p1), .val (.int p2), .val (.int p3), .val (.int p4), .val (.int p5), .val (.int v6), .val (.int v12), .val (.int v18), .val (.int v24), .val (.int v31), .val (.ref b33), .unset, .unset, .unset, .unset, .unset] [(.ref b33), (.ref b141), (.ref b141)])) t
    refine st224.trans ?_
    show Steps p.tables e below (T224.setTop (mkF m 150 #[.val (.int p0), .val (.int p1), .val (.int p2), .val (.int p3), .val (.int p4), .val (.int p5), .val (.int v6), .val (.int v12), .val (.int v18), .val (.int v24), .val (.int v31), .val (.ref b33), .unset, .unset, .unset, .unset, .unset] [(.ref b141)])) t
    refine XS.astore X224.here hx rfl (hb hby at_150) rfl rfl (l' := #[.val (.int p0), .val (.int p1), .val (.int p2), .val (.int p3), .val (.int p4), .val (.int p5), .val (.int v6), .val (.int v12), .val (.int v18), .val (.int v24), .val (.int v31), .val (.ref b33), .val (.ref b141), .unset, .unset, .unset, .unset]) rfl ?_
    refine XS.iload X224.here hx rfl (hb hby at_152) rfl ?_
    show Steps p.tables e below (T224.setTop (mkF m 154 #[.val (.int p0), .val (.int p1), .val (.int p2), .val (.int p3), .val (.int p4), .val (.int p5), .val (.int v6), .val (.int v12), .val (.int v18), .val (.int v24), .val (.int v31), .val (.ref b33), .val (.ref b141), .unset, .unset, .unset, .unset] [(.int v12)])) t
    refine XS.istore X224.here hx rfl (hb hby at_154) rfl (l' := #[.val (.int p0), .val (.int p1), .val (.int p2), .val (.int p3), .val (.int p4), .val (.int p5), .val (.int v6), .val (.int v12), .val (.int v18), .val (.int v24), .val (.int v31), .val (.ref b33), .val (.ref b141), .val (.int v12), .unset, .unset, .unset]) rfl ?_
    refine XS.iload X224.here hx rfl (hb hby at_156) rfl ?_
    refine XS.iload X224.here hx rfl (hb hby at_158) rfl ?_
    show Steps p.tables e below (T224.setTop (mkF m 160 #[.val (.int p0), .val (.int p1), .val (.int p2), .val (.int p3), .val (.int p4), .val (.int p5), .val (.int v6), .val (.int v12), .val (.int v18), .val (.int v24), .val (.int v31), .val (.ref b33), .val (.ref b141), .val (.int v12), .unset, .unset, .unset] [(.int v18), (.int v12)])) t
    refine XS.iadd X224.here hx rfl (hb hby at_160) rfl ?_
    show Steps p.tables e below (T224.setTop (mkF m 161 #[.val (.int p0), .val (.int p1), .val (.int p2), .val (.int p3), .val (.int p4), .val (.int p5), .val (.int v6), .val (.int v12), .val (.int v18), .val (.int v24), .val (.int v31), .val (.ref b33), .val (.ref b141), .val (.int v12), .unset, .unset, .unset] [(.int (v12 + v18))])) t
    refine XS.istore X224.here hx rfl (hb hby at_161) rfl (l' := #[.val (.int p0), .val (.int p1), .val (.int p2), .val (.int p3), .val (.int p4), .val (.int p5), .val (.int v6), .val (.int v12), .val (.int v18), .val (.int v24), .val (.int v31), .val (.ref b33), .val (.ref b141), .val (.int v12), .val (.int (v12 + v18)), .unset, .unset]) rfl ?_
    exact kt
  obtain ⟨v161, hv161, K245⟩ : ∃ v161 : Int32, v161 = (v12 + v18) ∧ ∀ t, Steps p.tables e below (T224.setTop (mkF m 163 #[.val (.int p0), .val (.int p1), .val (.int p2), .val (.int p3), .val (.int p4), .val (.int p5), .val (.int v6), .val (.int v12), .val (.int v18), .val (.int v24), .val (.int v31), .val (.ref b33), .val (.ref b141), .val (.int v12), .val (.int v161), .unset, .unset] [])) t → P0 t := ⟨_, rfl, K244⟩
  have K246 : ∀ t, Steps p.tables e below (T224.setTop (mkF m 170 #[.val (.int p0), .val (.int p1), .val (.int p2), .val (.int p3), .val (.int p4), .val (.int p5), .val (.int v6), .val (.int v12), .val (.int v18), .val (.int v24), .val (.int v31), .val (.ref b33), .val (.ref b141), .val (.int v12), .val (.int v161), .val (.int (v161 + v24)), .unset] [])) t → P0 t := by
    intro t kt
    refine K245 t ?_
    refine XS.iload X224.here hx rfl (hb hby at_163) rfl ?_
    refine XS.iload X224.here hx rfl (hb hby at_165) rfl ?_
    show Steps p.tables e below (T224.setTop (mkF m 167 #[.val (.int p0), .val (.int p1), .val (.int p2), .val (.int p3), .val (.int p4), .val (.int p5), .val (.int v6), .val (.int v12), .val (.int v18), .val (.int v24), .val (.int v31), .val (.ref b33), .val (.ref b141), .val (.int v12), .val (.int v161), .unset, .unset] [(.int v24), (.int v161)])) t
    refine XS.iadd X224.here hx rfl (hb hby at_167) rfl ?_
    show Steps p.tables e below (T224.setTop (mkF m 168 #[.val (.int p0), .val (.int p1), .val (.int p2), .val (.int p3), .val (.int p4), .val (.int p5), .val (.int v6), .val (.int v12), .val (.int v18), .val (.int v24), .val (.int v31), .val (.ref b33), .val (.ref b141), .val (.int v12), .val (.int v161), .unset, .unset] [(.int (v161 + v24))])) t
    refine XS.istore X224.here hx rfl (hb hby at_168) rfl (l' := #[.val (.int p0), .val (.int p1), .val (.int p2), .val (.int p3), .val (.int p4), .val (.int p5), .val (.int v6), .val (.int v12), .val (.int v18), .val (.int v24), .val (.int v31), .val (.ref b33), .val (.ref b141), .val (.int v12), .val (.int v161), .val (.int (v161 + v24)), .unset]) rfl ?_
    exact kt
  obtain ⟨v168, hv168, K247⟩ : ∃ v168 : Int32, v168 = (v161 + v24) ∧ ∀ t, Steps p.tables e below (T224.setTop (mkF m 170 #[.val (.int p0), .val (.int p1), .val (.int p2), .val (.int p3), .val (.int p4), .val (.int p5), .val (.int v6), .val (.int v12), .val (.int v18), .val (.int v24), .val (.int v31), .val (.ref b33), .val (.ref b141), .val (.int v12), .val (.int v161), .val (.int v168), .unset] [])) t → P0 t := ⟨_, rfl, K246⟩
  have K248 : ∀ t, Steps p.tables e below (T224.setTop (mkF m 183 #[.val (.int p0), .val (.int p1), .val (.int p2), .val (.int p3), .val (.int p4), .val (.int p5), .val (.int v6), .val (.int v12), .val (.int v18), .val (.int v24), .val (.int v31), .val (.ref b33), .val (.ref b141), .val (.int v12), .val (.int v161), .val (.int v168), .val (.int (0 : Int32))] [(.int p5), (.int v12)])) t → P0 t := by
    intro t kt
    refine K247 t ?_
    refine XS.iconst X224.here hx rfl (hb hby at_170) ?_
    show Steps p.tables e below (T224.setTop (mkF m 171 #[.val (.int p0), .val (.int p1), .val (.int p2), .val (.int p3), .val (.int p4), .val (.int p5), .val (.int v6), .val (.int v12), .val (.int v18), .val (.int v24), .val (.int v31), .val (.ref b33), .val (.ref b141), .val (.int v12), .val (.int v161), .val (.int v168), .unset] [(.int (0 : Int32))])) t
    refine XS.istore X224.here hx rfl (hb hby at_171) rfl (l' := #[.val (.int p0), .val (.int p1), .val (.int p2), .val (.int p3), .val (.int p4), .val (.int p5), .val (.int v6), .val (.int v12), .val (.int v18), .val (.int v24), .val (.int v31), .val (.ref b33), .val (.ref b141), .val (.int v12), .val (.int v161), .val (.int v168), .val (.int (0 : Int32))]) rfl ?_
    refine XS.iload X224.here hx rfl (hb hby at_173) rfl ?_
    refine XS.iconst X224.here hx rfl (hb hby at_175) ?_
    show Steps p.tables e below (T224.setTop (mkF m 176 #[.val (.int p0), .val (.int p1), .val (.int p2), .val (.int p3), .val (.int p4), .val (.int p5), .val (.int v6), .val (.int v12), .val (.int v18), .val (.int v24), .val (.int v31), .val (.ref b33), .val (.ref b141), .val (.int v12), .val (.int v161), .val (.int v168), .val (.int (0 : Int32))] [(.int (1 : Int32)), (.int v6)])) t
    refine XS.icmpNo X224.here hx rfl (hb hby at_176) rfl (tlt (by rw [hv6, hn]; decide)).2.2.2 ?_
    refine XS.iload X224.here hx rfl (hb hby at_179) rfl ?_
    refine XS.iload X224.here hx rfl (hb hby at_181) rfl ?_
    exact kt
  obtain ⟨j189_16, hj189_16, K251⟩ : ∃ (j189_16 : Int32), j189_16 = (if p5 < v12 then (0 : Int32) else (1 : Int32)) ∧ ∀ t, Steps p.tables e below (T224.setTop (mkF m 189 #[.val (.int p0), .val (.int p1), .val (.int p2), .val (.int p3), .val (.int p4), .val (.int p5), .val (.int v6), .val (.int v12), .val (.int v18), .val (.int v24), .val (.int v31), .val (.ref b33), .val (.ref b141), .val (.int v12), .val (.int v161), .val (.int v168), .val (.int j189_16)] [])) t → P0 t := by
    by_cases hc183 : p5 < v12
    · have K249 : ∀ t, Steps p.tables e below (T224.setTop (mkF m 189 #[.val (.int p0), .val (.int p1), .val (.int p2), .val (.int p3), .val (.int p4), .val (.int p5), .val (.int v6), .val (.int v12), .val (.int v18), .val (.int v24), .val (.int v31), .val (.ref b33), .val (.ref b141), .val (.int v12), .val (.int v161), .val (.int v168), .val (.int (0 : Int32))] [])) t → P0 t := by
        intro t kt
        refine K248 t ?_
        refine XS.icmpYes X224.here hx rfl (pc0 := 183) (pc' := 189) rfl (hb hby at_183) rfl (tlt hc183).2.2.1 (by decide) (by decide) ?_
        exact kt
      exact ⟨_, (if_pos hc183).symm, K249⟩
    · have K250 : ∀ t, Steps p.tables e below (T224.setTop (mkF m 189 #[.val (.int p0), .val (.int p1), .val (.int p2), .val (.int p3), .val (.int p4), .val (.int p5), .val (.int v6), .val (.int v12), .val (.int v18), .val (.int v24), .val (.int v31), .val (.ref b33), .val (.ref b141), .val (.int v12), .val (.int v161), .val (.int v168), .val (.int (1 : Int32))] [])) t → P0 t := by
        intro t kt
        refine K248 t ?_
        refine XS.icmpNo X224.here hx rfl (hb hby at_183) rfl (flt hc183).2.2.1 ?_
        refine XS.iconst X224.here hx rfl (hb hby at_186) ?_
        show Steps p.tables e below (T224.setTop (mkF m 187 #[.val (.int p0), .val (.int p1), .val (.int p2), .val (.int p3), .val (.int p4), .val (.int p5), .val (.int v6), .val (.int v12), .val (.int v18), .val (.int v24), .val (.int v31), .val (.ref b33), .val (.ref b141), .val (.int v12), .val (.int v161), .val (.int v168), .val (.int (0 : Int32))] [(.int (1 : Int32))])) t
        refine XS.istore X224.here hx rfl (hb hby at_187) rfl (l' := #[.val (.int p0), .val (.int p1), .val (.int p2), .val (.int p3), .val (.int p4), .val (.int p5), .val (.int v6), .val (.int v12), .val (.int v18), .val (.int v24), .val (.int v31), .val (.ref b33), .val (.ref b141), .val (.int v12), .val (.int v161), .val (.int v168), .val (.int (1 : Int32))]) rfl ?_
        exact kt
      exact ⟨_, (if_neg hc183).symm, K250⟩
  have K252 : ∀ t, Steps p.tables e below (T224.setTop (mkF m 199 #[.val (.int p0), .val (.int p1), .val (.int p2), .val (.int p3), .val (.int p4), .val (.int p5), .val (.int v6), .val (.int v12), .val (.int v18), .val (.int v24), .val (.int v31), .val (.ref b33), .val (.ref b141), .val (.int v12), .val (.int v161), .val (.int v168), .val (.int j189_16)] [(.int p5), (.int v161)])) t → P0 t := by
    intro t kt
    refine K251 t ?_
    refine XS.iload X224.here hx rfl (hb hby at_189) rfl ?_
    refine XS.iconst X224.here hx rfl (hb hby at_191) ?_
    show Steps p.tables e below (T224.setTop (mkF m 192 #[.val (.int p0), .val (.int p1), .val (.int p2), .val (.int p3), .val (.int p4), .val (.int p5), .val (.int v6), .val (.int v12), .val (.int v18), .val (.int v24), .val (.int v31), .val (.ref b33), .val (.ref b141), .val (.int v12), .val (.int v161), .val (.int v168), .val (.int j189_16)] [(.int (2 : Int32)), (.int v6)])) t
    refine XS.icmpNo X224.here hx rfl (hb hby at_192) rfl (tlt (by rw [hv6, hn]; decide)).2.2.2 ?_
    refine XS.iload X224.here hx rfl (hb hby at_195) rfl ?_
    refine XS.iload X224.here hx rfl (hb hby at_197) rfl ?_
    exact kt
  obtain ⟨j205_16, hj205_16, K255⟩ : ∃ (j205_16 : Int32), j205_16 = (if p5 < v161 then j189_16 else (2 : Int32)) ∧ ∀ t, Steps p.tables e below (T224.setTop (mkF m 205 #[.val (.int p0), .val (.int p1), .val (.int p2), .val (.int p3), .val (.int p4), .val (.int p5), .val (.int v6), .val (.int v12), .val (.int v18), .val (.int v24), .val (.int v31), .val (.ref b33), .val (.ref b141), .val (.int v12), .val (.int v161), .val (.int v168), .val (.int j205_16)] [])) t → P0 t := by
    by_cases hc199 : p5 < v161
    · have K253 : ∀ t, Steps p.tables e below (T224.setTop (mkF m 205 #[.val (.int p0), .val (.int p1), .val (.int p2), .val (.int p3), .val (.int p4), .val (.int p5), .val (.int v6), .val (.int v12), .val (.int v18), .val (.int v24), .val (.int v31), .val (.ref b33), .val (.ref b141), .val (.int v12), .val (.int v161), .val (.int v168), .val (.int j189_16)] [])) t → P0 t := by
        intro t kt
        refine K252 t ?_
        refine XS.icmpYes X224.here hx rfl (pc0 := 199) (pc' := 205) rfl (hb hby at_199) rfl (tlt hc199).2.2.1 (by decide) (by decide) ?_
        exact kt
      exact ⟨_, (if_pos hc199).symm, K253⟩
    · have K254 : ∀ t, Steps p.tables e below (T224.setTop (mkF m 205 #[.val (.int p0), .val (.int p1), .val (.int p2), .val (.int p3), .val (.int p4), .val (.int p5), .val (.int v6), .val (.int v12), .val (.int v18), .val (.int v24), .val (.int v31), .val (.ref b33), .val (.ref b141), .val (.int v12), .val (.int v161), .val (.int v168), .val (.int (2 : Int32))] [])) t → P0 t := by
        intro t kt
        refine K252 t ?_
        refine XS.icmpNo X224.here hx rfl (hb hby at_199) rfl (flt hc199).2.2.1 ?_
        refine XS.iconst X224.here hx rfl (hb hby at_202) ?_
        show Steps p.tables e below (T224.setTop (mkF m 203 #[.val (.int p0), .val (.int p1), .val (.int p2), .val (.int p3), .val (.int p4), .val (.int p5), .val (.int v6), .val (.int v12), .val (.int v18), .val (.int v24), .val (.int v31), .val (.ref b33), .val (.ref b141), .val (.int v12), .val (.int v161), .val (.int v168), .val (.int j189_16)] [(.int (2 : Int32))])) t
        refine XS.istore X224.here hx rfl (hb hby at_203) rfl (l' := #[.val (.int p0), .val (.int p1), .val (.int p2), .val (.int p3), .val (.int p4), .val (.int p5), .val (.int v6), .val (.int v12), .val (.int v18), .val (.int v24), .val (.int v31), .val (.ref b33), .val (.ref b141), .val (.int v12), .val (.int v161), .val (.int v168), .val (.int (2 : Int32))]) rfl ?_
        exact kt
      exact ⟨_, (if_neg hc199).symm, K254⟩
  obtain ⟨cq256, kq256, q256a, q256b, q256c⟩ := isOf hZ e224 F225
  obtain ⟨_, _, ⟨T256, L256, k256, n256⟩, -, X256, ⟨Lc256, hQ256, l256, y256, z256⟩, st256⟩ := X224.virtualBack hx (y := (⟨"com/example/termwright/termwright/DocumentNumbers", "segmentOf", "(I)I"⟩ : MethodName)) (z := (⟨"com/example/termwright/termwright/DocumentNumbers", "segmentOf", "(I)I"⟩ : MethodName)) hown (mvT hZ (hw _ (gw 52 rfl))) (mvT hZ (hw _ (gw 53 rfl))) (notFace_of_selects (args := #[]) (mvT hZ (hw _ (gw 55 rfl)))) (mvT hZ (hw _ (gw 55 rfl))) (mvT hZ (hw _ (gw 54 rfl))) (by decide) (backOf (W := 0) (rm_se3 l Z a0 hw [] b141 p5 bb (fB3 v12 v18 v24) h224 n0 Z224 F226 F227) hZ (hw _ (gw 56 rfl)) (hw _ (gw 29 rfl)) (by decide) (by decide)) q256a q256c (g := (mkF m 225 #[.val (.int p0), .val (.int p1), .val (.int p2), .val (.int p3), .val (.int p4), .val (.int p5), .val (.int v6), .val (.int v12), .val (.int v18), .val (.int v24), .val (.int v31), .val (.ref b33), .val (.ref b141), .val (.int v12), .val (.int v161), .val (.int v168), .val (.int j205_16)] [(.int p5), (.ref b141)])) rfl (by rw [hml]; rfl) (Steps.refl _) (argsL := [(.int p5)]) (rest := []) (lenOf law3_pd4 rfl) rfl (by show 2 * 0 + _ ≤ _; exact Nat.le_of_eq rfl) (hb hby at_225) (fun _ _ => ⟨rfl, e224, (by decide : 13 + 0 ≤ _), (by decide : 58 + 0 ≤ _)⟩)
  dsimp only [Pt.U, Pt.locs, Pt.cells, Pt.slots] at X256 l256 y256 z256 st256 hQ256
  rw [l256, y256, z256] at X256
  obtain ⟨rfl, N256q, e256⟩ := hQ256
  have N256 := Fr.app N224 N256q
  have K257 : ∀ t, Steps p.tables e below (T256.setTop (mkF m 230 #[.val (.int p0), .val (.int p1), .val (.int p2), .val (.int p3), .val (.int p4), .val (.int p5), .val (.int v6), .val (.int v12), .val (.int v18), .val (.int v24), .val (.int v31), .val (.ref b33), .val (.ref b141), .val (.int v12), .val (.int v161), .val (.int v168), .val (.int j205_16)] [(.int j205_16), (.int (fSeg3 p5 (fB3 v12 v18 v24)))])) t → P0 t := by
    intro t kt
    refine K255 t ?_
    refine XS.iload X224.here hx rfl (hb hby at_205) rfl ?_
    refine XS.iconst X224.here hx rfl (hb hby at_207) ?_
    show Steps p.tables e below (T224.setTop (mkF m 208 #[.val (.int p0), .val (.int p1), .val (.int p2), .val (.int p3), .val (.int p4), .val (.int p5), .val (.int v6), .val (.int v12), .val (.int v18), .val (.int v24), .val (.int v31), .val (.ref b33), .val (.ref b141), .val (.int v12), .val (.int v161), .val (.int v168), .val (.int j205_16)] [(.int (3 : Int32)), (.int v6)])) t
    refine XS.icmpYes X224.here hx rfl (pc0 := 208) (pc' := 221) rfl (hb hby at_208) rfl (flt (by rw [hv6, hn]; decide)).2.2.2 (by decide) (by decide) ?_
    refine XS.aload X224.here hx rfl (hb hby at_221) rfl rfl ?_
    refine XS.iload X224.here hx rfl (hb hby at_223) rfl ?_
    show Steps p.tables e below (T224.setTop (mkF m 225 #[.val (.int p0), .val (.int p1), .val (.int p2), .val (.int p3), .val (.int p4), .val (.int p5), .val (.int v6), .val (.int v12), .val (.int v18), .val (.int v24), .val (.int v31), .val (.ref b33), .val (.ref b141), .val (.int v12), .val (.int v161), .val (.int v168), .val (.int j205_16)] [(.int p5), (.ref b141)])) t
    refine st256.trans ?_
    refine XS.iload X256.here hx rfl (hb hby at_228) rfl ?_
    exact kt
  obtain ⟨j238_s0, hj238_s0, K260⟩ : ∃ (j238_s0 : Int32), j238_s0 = (if (fSeg3 p5 (fB3 v12 v18 v24)) = j205_16 then (1 : Int32) else (0 : Int32)) ∧ ∀ t, Steps p.tables e below (T256.setTop (mkF m 238 #[.val (.int p0), .val (.int p1), .val (.int p2), .val (.int p3), .val (.int p4), .val (.int p5), .val (.int v6), .val (.int v12), .val (.int v18), .val (.int v24), .val (.int v31), .val (.ref b33), .val (.ref b141), .val (.int v12), .val (.int v161), .val (.int v168), .val (.int j205_16)] [(.int j238_s0)])) t → P0 t := by
    by_cases hc230 : (fSeg3 p5 (fB3 v12 v18 v24)) = j205_16
    · have K258 : ∀ t, Steps p.tables e below (T256.setTop (mkF m 238 #[.val (.int p0), .val (.int p1), .val (.int p2), .val (.int p3), .val (.int p4), .val (.int p5), .val (.int v6), .val (.int v12), .val (.int v18), .val (.int v24), .val (.int v31), .val (.ref b33), .val (.ref b141), .val (.int v12), .val (.int v161), .val (.int v168), .val (.int j205_16)] [(.int (1 : Int32))])) t → P0 t := by
        intro t kt
        refine K257 t ?_
        refine XS.icmpNo X256.here hx rfl (hb hby at_230) rfl (teq hc230).2 ?_
        refine XS.iconst X256.here hx rfl (hb hby at_233) ?_
        show Steps p.tables e below (T256.setTop (mkF m 234 #[.val (.int p0), .val (.int p1), .val (.int p2), .val (.int p3), .val (.int p4), .val (.int p5), .val (.int v6), .val (.int v12), .val (.int v18), .val (.int v24), .val (.int v31), .val (.ref b33), .val (.ref b141), .val (.int v12), .val (.int v161), .val (.int v168), .val (.int j205_16)] [(.int (1 : Int32))])) t
        refine XS.goto X256.here hx rfl (pc0 := 234) (pc' := 238) rfl (hb hby at_234) (by decide) (by decide) ?_
        exact kt
      exact ⟨_, (if_pos hc230).symm, K258⟩
    · have K259 : ∀ t, Steps p.tables e below (T256.setTop (mkF m 238 #[.val (.int p0), .val (.int p1), .val (.int p2), .val (.int p3), .val (.int p4), .val (.int p5), .val (.int v6), .val (.int v12), .val (.int v18), .val (.int v24), .val (.int v31), .val (.ref b33), .val (.ref b141), .val (.int v12), .val (.int v161), .val (.int v168), .val (.int j205_16)] [(.int (0 : Int32))])) t → P0 t := by
        intro t kt
        refine K257 t ?_
        refine XS.icmpYes X256.here hx rfl (pc0 := 230) (pc' := 237) rfl (hb hby at_230) rfl (feq hc230).2 (by decide) (by decide) ?_
        refine XS.iconst X256.here hx rfl (hb hby at_237) ?_
        exact kt
      exact ⟨_, (if_neg hc230).symm, K259⟩
  have hres : j238_s0 = 1 := own_plain3 p0 p1 p2 p3 p4 p5 dce v6 v12 v18 v24 v31 v161 v168 j189_16 j205_16 j238_s0 hn hv6 hv12 hv18 hv24 hv31 hv161 hv168 hj189_16 hj205_16 hj238_s0
  obtain ⟨fs, hr, hrun, hended, hW⟩ := X256.leaveW hS150 (by rw [e256]; exact Y224) (v := some (.int (1 : Int32))) (fun h => by rw [Bd.returns] at h; cases h)
  refine ⟨_, _, ?_, hrun, hended, _, _, rfl, ?_, hW.1, hW.2.1, hW.2.2.1, hW.2.2.2.mono (by decide) (by decide)⟩
  · rw [hres] at K260
    have q := K260 _ (retN X256 hx (t := .boolean) Bd.returns (by simp) (hb hby at_238) hr)
    rw [hP0] at q; exact q
  · exact ⟨rfl, N256⟩
theorem law4_pn : plainName "com/example/termwright/termwright/DocumentNumbersSegmentOfPinLaw" = true := by first | (simp [plainName, overriddenIn]; done) | decide +kernel
theorem law4_pd0 : parseMethodDescriptor "()V" = some ⟨[], none⟩ := by decide +kernel
theorem law4_pd1 : parseMethodDescriptor "(Ljava/lang/String;IJI)V" = some ⟨[(.object "java/lang/String"), .int, .long, .int], none⟩ := by decide +kernel
theorem law4_pd2 : parseMethodDescriptor "(Ljava/lang/Object;)Z" = some ⟨[(.object "java/lang/Object")], some .boolean⟩ := by decide +kernel
theorem law4_pd3 : parseMethodDescriptor "(Ljava/util/List;)V" = some ⟨[(.object "java/util/List")], none⟩ := by decide +kernel
theorem law4_pd4 : parseMethodDescriptor "(I)I" = some ⟨[.int], some .int⟩ := by decide +kernel
theorem law4_ef (m : MethodId) (x0 : Int32) (x1 : Int32) (x2 : Int32) (x3 : Int32) (x4 : Int32) (x5 : Int32) : entryFrame m #[(.int x0), (.int x1), (.int x2), (.int x3), (.int x4), (.int x5)] maxLocals = mkF m 0 #[.val (.int x0), .val (.int x1), .val (.int x2), .val (.int x3), .val (.int x4), .val (.int x5), .unset, .unset, .unset, .unset, .unset, .unset, .unset, .unset, .unset, .unset, .unset] [] := by first | (simp [entryFrame, mkF, argsToLocals, Value.category, maxLocals]; done) | rfl
set_option maxRecDepth 65536 in
set_option maxHeartbeats 40000000 in
theorem rm_law4 (l : Launch) (Z : State) (a0 : Array Value) (hw : ∀ d ∈ tables_1, d.before a0 Z = true) (ws : List Jvm.Cond) (p0 : Int32) (p1 : Int32) (p2 : Int32) (p3 : Int32) (p4 : Int32) (p5 : Int32) (dce : Addr) (h0 : Heap) (n0 : Nat) (Z0 : n0 ≤ h0.size) (H0 : LA Z h0 dce 0) (H1 : Sta Z h0 "java/util/ArrayList" "DEFAULTCAPACITY_EMPTY_ELEMENTDATA" "[Ljava/lang/Object;" (.ref dce)) (hn : ((p0 &&& (7 : Int32)) % (5 : Int32)) = (4 : Int32)) :
    MetFree l x (head1 (Jvm.Cond.code x code maxLocals ret :: ws) room_1) (fun a U => a = #[(.int p0), (.int p1), (.int p2), (.int p3), (.int p4), (.int p5)] ∧ Z.Warmed39 U.vm ∧ U.heap = h0) (fun _ _ _ _ _ => True) (fun _ U o U' => ∃ v L, o = .returned v ∧ QL n0 v U'.heap L ∧ ReturnedEndW U o U' L room_1.cells room_1.slots) := by
  refine MetFree.of_bodySF (plainFor_of_name law4_pn) hisR ?_
  intro p e s m args below meth c s₁ Bd hml0 hP hK
  obtain ⟨rfl, hZ, hh⟩ := hP
  have hx := Bd.exec
  have hby := Bd.bytes
  have hml : c.maxLocals = 17 := hml0
  have hown : s.vm.findClass "com/example/termwright/termwright/DocumentNumbersSegmentOfPinLaw" = some m.cls := findClass_of_methodNamed Bd.named
  have hnm := (name_of_methodNamed Bd.named Bd.method).1
  have X0 : Stand p l e room_1 s m #[(.int p0), (.int p1), (.int p2), (.int p3), (.int p4), (.int p5)] below meth c s₁ [] 0 0 := Stand.of_body Bd
  have e0 : s₁.heap = h0 := by rw [← hh, Bd.state]; rfl
  have N0 := Fr.nil n0
  have hstr : ∀ d ∈ Bundle.stringAtoms, d.before a0 Z = true := by
    intro d hd
    simp only [Bundle.stringAtoms, List.mem_cons, List.not_mem_nil, or_false] at hd
    rcases hd with rfl | rfl | rfl | rfl | rfl | rfl | rfl
    · exact (hw _ (gw 61 rfl))
    · exact (hw _ (gw 62 rfl))
    · exact (hw _ (gw 63 rfl))
    · exact (hw _ (gw 64 rfl))
    · exact (hw _ (gw 65 rfl))
    · exact (hw _ (gw 66 rfl))
    · exact (hw _ (gw 67 rfl))
  obtain ⟨P0, hP0⟩ : ∃ P0 : State → Prop, P0 = fun t => Steps p.tables e below (s₁.setTop (entryFrame m #[(.int p0), (.int p1), (.int p2), (.int p3), (.int p4), (.int p5)] maxLocals)) t := ⟨_, rfl⟩
  have K0 : ∀ t, Steps p.tables e below (s₁.setTop (mkF m 0 #[.val (.int p0), .val (.int p1), .val (.int p2), .val (.int p3), .val (.int p4), .val (.int p5), .unset, .unset, .unset, .unset, .unset, .unset, .unset, .unset, .unset, .unset, .unset] [])) t → P0 t := by
    intro t k; rw [hP0]; exact castTop (law4_ef m p0 p1 p2 p3 p4 p5) k
  have K1 : ∀ t, Steps p.tables e below (s₁.setTop (mkF m 8 #[.val (.int p0), .val (.int p1), .val (.int p2), .val (.int p3), .val (.int p4), .val (.int p5), .val (.int ((p0 &&& (7 : Int32)) % (5 : Int32))), .unset, .unset, .unset, .unset, .unset, .unset, .unset, .unset, .unset, .unset] [])) t → P0 t := by
    intro t kt
    refine K0 t ?_
    refine XS.iloadN X0.here hx rfl (hb hby at_0) rfl ?_
    refine XS.bipush X0.here hx rfl (hb hby at_1) ?_
    show Steps p.tables e below (s₁.setTop (mkF m 3 #[.val (.int p0), .val (.int p1), .val (.int p2), .val (.int p3), .val (.int p4), .val (.int p5), .unset, .unset, .unset, .unset, .unset, .unset, .unset, .unset, .unset, .unset, .unset] [(.int (7 : Int32)), (.int p0)])) t
    refine XS.iand X0.here hx rfl (hb hby at_3) rfl ?_
    refine XS.iconst X0.here hx rfl (hb hby at_4) ?_
    show Steps p.tables e below (s₁.setTop (mkF m 5 #[.val (.int p0), .val (.int p1), .val (.int p2), .val (.int p3), .val (.int p4), .val (.int p5), .unset, .unset, .unset, .unset, .unset, .unset, .unset, .unset, .unset, .unset, .unset] [(.int (5 : Int32)), (.int (p0 &&& (7 : Int32)))])) t
    refine iremM X0 hx rfl (hb hby at_5) rfl (by decide) ?_
    show Steps p.tables e below (s₁.setTop (mkF m 6 #[.val (.int p0), .val (.int p1), .val (.int p2), .val (.int p3), .val (.int p4), .val (.int p5), .unset, .unset, .unset, .unset, .unset, .unset, .unset, .unset, .unset, .unset, .unset] [(.int ((p0 &&& (7 : Int32)) % (5 : Int32)))])) t
    refine XS.istore X0.here hx rfl (hb hby at_6) rfl (l' := #[.val (.int p0), .val (.int p1), .val (.int p2), .val (.int p3), .val (.int p4), .val (.int p5), .val (.int ((p0 &&& (7 : Int32)) % (5 : Int32))), .unset, .unset, .unset, .unset, .unset, .unset, .unset, .unset, .unset, .unset]) rfl ?_
    exact kt
  obtain ⟨v6, hv6, K2⟩ : ∃ v6 : Int32, v6 = ((p0 &&& (7 : Int32)) % (5 : Int32)) ∧ ∀ t, Steps p.tables e below (s₁.setTop (mkF m 8 #[.val (.int p0), .val (.int p1), .val (.int p2), .val (.int p3), .val (.int p4), .val (.int p5), .val (.int v6), .unset, .unset, .unset, .unset, .unset, .unset, .unset, .unset, .unset, .unset] [])) t → P0 t := ⟨_, rfl, K1⟩
  have K3 : ∀ t, Steps p.tables e below (s₁.setTop (mkF m 14 #[.val (.int p0), .val (.int p1), .val (.int p2), .val (.int p3), .val (.int p4), .val (.int p5), .val (.int v6), .val (.int (p1 &&& (536870911 : Int32))), .unset, .unset, .unset, .unset, .unset, .unset, .unset, .unset, .unset] [])) t → P0 t := by
    intro t kt
    refine K2 t ?_
    refine XS.iloadN X0.here hx rfl (hb hby at_8) rfl ?_
    show Steps p.tables e below (s₁.setTop (mkF m 9 #[.val (.int p0), .val (.int p1), .val (.int p2), .val (.int p3), .val (.int p4), .val (.int p5), .val (.int v6), .unset, .unset, .unset, .unset, .unset, .unset, .unset, .unset, .unset, .unset] [(.int p1)])) t
    refine X0.ldcInt hx hown (mvT hZ (hw _ (gw 0 rfl))) (g := (mkF m 9 #[.val (.int p0), .val (.int p1), .val (.int p2), .val (.int p3), .val (.int p4), .val (.int p5), .val (.int v6), .unset, .unset, .unset, .unset, .unset, .unset, .unset, .unset, .unset, .unset] [(.int p1)])) rfl (hb hby at_9) _ ?_
    show Steps p.tables e below (s₁.setTop (mkF m 11 #[.val (.int p0), .val (.int p1), .val (.int p2), .val (.int p3), .val (.int p4), .val (.int p5), .val (.int v6), .unset, .unset, .unset, .unset, .unset, .unset, .unset, .unset, .unset, .unset] [(.int (536870911 : Int32)), (.int p1)])) t
    refine XS.iand X0.here hx rfl (hb hby at_11) rfl ?_
    show Steps p.tables e below (s₁.setTop (mkF m 12 #[.val (.int p0), .val (.int p1), .val (.int p2), .val (.int p3), .val (.int p4), .val (.int p5), .val (.int v6), .unset, .unset, .unset, .unset, .unset, .unset, .unset, .unset, .unset, .unset] [(.int (p1 &&& (536870911 : Int32)))])) t
    refine XS.istore X0.here hx rfl (hb hby at_12) rfl (l' := #[.val (.int p0), .val (.int p1), .val (.int p2), .val (.int p3), .val (.int p4), .val (.int p5), .val (.int v6), .val (.int (p1 &&& (536870911 : Int32))), .unset, .unset, .unset, .unset, .unset, .unset, .unset, .unset, .unset]) rfl ?_
    exact kt
  obtain ⟨v12, hv12, K4⟩ : ∃ v12 : Int32, v12 = (p1 &&& (536870911 : Int32)) ∧ ∀ t, Steps p.tables e below (s₁.setTop (mkF m 14 #[.val (.int p0), .val (.int p1), .val (.int p2), .val (.int p3), .val (.int p4), .val (.int p5), .val (.int v6), .val (.int v12), .unset, .unset, .unset, .unset, .unset, .unset, .unset, .unset, .unset] [])) t → P0 t := ⟨_, rfl, K3⟩
  have K5 : ∀ t, Steps p.tables e below (s₁.setTop (mkF m 20 #[.val (.int p0), .val (.int p1), .val (.int p2), .val (.int p3), .val (.int p4), .val (.int p5), .val (.int v6), .val (.int v12), .val (.int (p2 &&& (536870911 : Int32))), .unset, .unset, .unset, .unset, .unset, .unset, .unset, .unset] [])) t → P0 t := by
    intro t kt
    refine K4 t ?_
    refine XS.iloadN X0.here hx rfl (hb hby at_14) rfl ?_
    show Steps p.tables e below (s₁.setTop (mkF m 15 #[.val (.int p0), .val (.int p1), .val (.int p2), .val (.int p3), .val (.int p4), .val (.int p5), .val (.int v6), .val (.int v12), .unset, .unset, .unset, .unset, .unset, .unset, .unset, .unset, .unset] [(.int p2)])) t
    refine X0.ldcInt hx hown (mvT hZ (hw _ (gw 0 rfl))) (g := (mkF m 15 #[.val (.int p0), .val (.int p1), .val (.int p2), .val (.int p3), .val (.int p4), .val (.int p5), .val (.int v6), .val (.int v12), .unset, .unset, .unset, .unset, .unset, .unset, .unset, .unset, .unset] [(.int p2)])) rfl (hb hby at_15) _ ?_
    show Steps p.tables e below (s₁.setTop (mkF m 17 #[.val (.int p0), .val (.int p1), .val (.int p2), .val (.int p3), .val (.int p4), .val (.int p5), .val (.int v6), .val (.int v12), .unset, .unset, .unset, .unset, .unset, .unset, .unset, .unset, .unset] [(.int (536870911 : Int32)), (.int p2)])) t
    refine XS.iand X0.here hx rfl (hb hby at_17) rfl ?_
    show Steps p.tables e below (s₁.setTop (mkF m 18 #[.val (.int p0), .val (.int p1), .val (.int p2), .val (.int p3), .val (.int p4), .val (.int p5), .val (.int v6), .val (.int v12), .unset, .unset, .unset, .unset, .unset, .unset, .unset, .unset, .unset] [(.int (p2 &&& (536870911 : Int32)))])) t
    refine XS.istore X0.here hx rfl (hb hby at_18) rfl (l' := #[.val (.int p0), .val (.int p1), .val (.int p2), .val (.int p3), .val (.int p4), .val (.int p5), .val (.int v6), .val (.int v12), .val (.int (p2 &&& (536870911 : Int32))), .unset, .unset, .unset, .unset, .unset, .unset, .unset, .unset]) rfl ?_
    exact kt
  obtain ⟨v18, hv18, K6⟩ : ∃ v18 : Int32, v18 = (p2 &&& (536870911 : Int32)) ∧ ∀ t, Steps p.tables e below (s₁.setTop (mkF m 20 #[.val (.int p0), .val (.int p1), .val (.int p2), .val (.int p3), .val (.int p4), .val (.int p5), .val (.int v6), .val (.int v12), .val (.int v18), .unset, .unset, .unset, .unset, .unset, .unset, .unset, .unset] [])) t → P0 t := ⟨_, rfl, K5⟩
  have K7 : ∀ t, Steps p.tables e below (s₁.setTop (mkF m 26 #[.val (.int p0), .val (.int p1), .val (.int p2), .val (.int p3), .val (.int p4), .val (.int p5), .val (.int v6), .val (.int v12), .val (.int v18), .val (.int (p3 &&& (536870911 : Int32))), .unset, .unset, .unset, .unset, .unset, .unset, .unset] [])) t → P0 t := by
    intro t kt
    refine K6 t ?_
    refine XS.iloadN X0.here hx rfl (hb hby at_20) rfl ?_
    show Steps p.tables e below (s₁.setTop (mkF m 21 #[.val (.int p0), .val (.int p1), .val (.int p2), .val (.int p3), .val (.int p4), .val (.int p5), .val (.int v6), .val (.int v12), .val (.int v18), .unset, .unset, .unset, .unset, .unset, .unset, .unset, .unset] [(.int p3)])) t
    refine X0.ldcInt hx hown (mvT hZ (hw _ (gw 0 rfl))) (g := (mkF m 21 #[.val (.int p0), .val (.int p1), .val (.int p2), .val (.int p3), .val (.int p4), .val (.int p5), .val (.int v6), .val (.int v12), .val (.int v18), .unset, .unset, .unset, .unset, .unset, .unset, .unset, .unset] [(.int p3)])) rfl (hb hby at_21) _ ?_
    show Steps p.tables e below (s₁.setTop (mkF m 23 #[.val (.int p0), .val (.int p1), .val (.int p2), .val (.int p3), .val (.int p4), .val (.int p5), .val (.int v6), .val (.int v12), .val (.int v18), .unset, .unset, .unset, .unset, .unset, .unset, .unset, .unset] [(.int (536870911 : Int32)), (.int p3)])) t
    refine XS.iand X0.here hx rfl (hb hby at_23) rfl ?_
    show Steps p.tables e below (s₁.setTop (mkF m 24 #[.val (.int p0), .val (.int p1), .val (.int p2), .val (.int p3), .val (.int p4), .val (.int p5), .val (.int v6), .val (.int v12), .val (.int v18), .unset, .unset, .unset, .unset, .unset, .unset, .unset, .unset] [(.int (p3 &&& (536870911 : Int32)))])) t
    refine XS.istore X0.here hx rfl (hb hby at_24) rfl (l' := #[.val (.int p0), .val (.int p1), .val (.int p2), .val (.int p3), .val (.int p4), .val (.int p5), .val (.int v6), .val (.int v12), .val (.int v18), .val (.int (p3 &&& (536870911 : Int32))), .unset, .unset, .unset, .unset, .unset, .unset, .unset]) rfl ?_
    exact kt
  obtain ⟨v24, hv24, K8⟩ : ∃ v24 : Int32, v24 = (p3 &&& (536870911 : Int32)) ∧ ∀ t, Steps p.tables e below (s₁.setTop (mkF m 26 #[.val (.int p0), .val (.int p1), .val (.int p2), .val (.int p3), .val (.int p4), .val (.int p5), .val (.int v6), .val (.int v12), .val (.int v18), .val (.int v24), .unset, .unset, .unset, .unset, .unset, .unset, .unset] [])) t → P0 t := ⟨_, rfl, K7⟩
  have K9 : ∀ t, Steps p.tables e below (s₁.setTop (mkF m 33 #[.val (.int p0), .val (.int p1), .val (.int p2), .val (.int p3), .val (.int p4), .val (.int p5), .val (.int v6), .val (.int v12), .val (.int v18), .val (.int v24), .val (.int (p4 &&& (536870911 : Int32))), .unset, .unset, .unset, .unset, .unset, .unset] [])) t → P0 t := by
    intro t kt
    refine K8 t ?_
    refine XS.iload X0.here hx rfl (hb hby at_26) rfl ?_
    show Steps p.tables e below (s₁.setTop (mkF m 28 #[.val (.int p0), .val (.int p1), .val (.int p2), .val (.int p3), .val (.int p4), .val (.int p5), .val (.int v6), .val (.int v12), .val (.int v18), .val (.int v24), .unset, .unset, .unset, .unset, .unset, .unset, .unset] [(.int p4)])) t
    refine X0.ldcInt hx hown (mvT hZ (hw _ (gw 0 rfl))) (g := (mkF m 28 #[.val (.int p0), .val (.int p1), .val (.int p2), .val (.int p3), .val (.int p4), .val (.int p5), .val (.int v6), .val (.int v12), .val (.int v18), .val (.int v24), .unset, .unset, .unset, .unset, .unset, .unset, .unset] [(.int p4)])) rfl (hb hby at_28) _ ?_
    show Steps p.tables e below (s₁.setTop (mkF m 30 #[.val (.int p0), .val (.int p1), .val (.int p2), .val (.int p3), .val (.int p4), .val (.int p5), .val (.int v6), .val (.int v12), .val (.int v18), .val (.int v24), .unset, .unset, .unset, .unset, .unset, .unset, .unset] [(.int (536870911 : Int32)), (.int p4)])) t
    refine XS.iand X0.here hx rfl (hb hby at_30) rfl ?_
    show Steps p.tables e below (s₁.setTop (mkF m 31 #[.val (.int p0), .val (.int p1), .val (.int p2), .val (.int p3), .val (.int p4), .val (.int p5), .val (.int v6), .val (.int v12), .val (.int v18), .val (.int v24), .unset, .unset, .unset, .unset, .unset, .unset, .unset] [(.int (p4 &&& (536870911 : Int32)))])) t
    refine XS.istore X0.here hx rfl (hb hby at_31) rfl (l' := #[.val (.int p0), .val (.int p1), .val (.int p2), .val (.int p3), .val (.int p4), .val (.int p5), .val (.int v6), .val (.int v12), .val (.int v18), .val (.int v24), .val (.int (p4 &&& (536870911 : Int32))), .unset, .unset, .unset, .unset, .unset, .unset]) rfl ?_
    exact kt
  obtain ⟨v31, hv31, K10⟩ : ∃ v31 : Int32, v31 = (p4 &&& (536870911 : Int32)) ∧ ∀ t, Steps p.tables e below (s₁.setTop (mkF m 33 #[.val (.int p0), .val (.int p1), .val (.int p2), .val (.int p3), .val (.int p4), .val (.int p5), .val (.int v6), .val (.int v12), .val (.int v18), .val (.int v24), .val (.int v31), .unset, .unset, .unset, .unset, .unset, .unset] [])) t → P0 t := ⟨_, rfl, K9⟩
  obtain ⟨T11, h11, X11, e11, E11, A11, D11, -, st11⟩ := newO X0 hx hZ hown (hw _ (gw 1 rfl)) (hw _ (gw 2 rfl)) (hw _ (gw 3 rfl)) e0 (g := (mkF m 33 #[.val (.int p0), .val (.int p1), .val (.int p2), .val (.int p3), .val (.int p4), .val (.int p5), .val (.int v6), .val (.int v12), .val (.int v18), .val (.int v24), .val (.int v31), .unset, .unset, .unset, .unset, .unset, .unset] [])) rfl (hb hby at_33) (by decide) (by decide)
  obtain ⟨b33, g11⟩ : ∃ z, z = h0.size := ⟨_, rfl⟩
  have g_b33 : n0 ≤ b33 := Nat.le_trans Z0 (Nat.le_of_eq g11.symm)
  have ne_dce_b33 : dce ≠ b33 := Nat.ne_of_lt (Nat.lt_of_lt_of_le H0.lt (Nat.le_of_eq g11.symm))
  rw [← g11] at A11 D11 st11
  have Z11 : n0 ≤ h11.size := Nat.le_trans Z0 E11.1
  have F12 := H0.ext E11
  have F13 := Sta.ext E11 H1
  have F14 : Fld Z h11 b33 "java/util/AbstractList" "modCount" "I" (.int (0 : Int32)) := D11 (Or.inl (hw _ (gw 23 rfl))) (ty := .int) (by decide)
  have F15 : Fld Z h11 b33 "java/util/ArrayList" "elementData" "[Ljava/lang/Object;" .null := D11 (Or.inl (hw _ (gw 26 rfl))) (ty := (.array (.object "java/lang/Object"))) (by decide)
  have F16 : Fld Z h11 b33 "java/util/ArrayList" "size" "I" (.int (0 : Int32)) := D11 (Or.inl (hw _ (gw 44 rfl))) (ty := .int) (by decide)
  obtain ⟨_, _, ⟨T17, L17, k17, n17⟩, -, X17, ⟨Lc17, hQ17, l17, y17, z17⟩, st17⟩ := X11.specialBack hx (y := (⟨"java/util/ArrayList", "<init>", "()V"⟩ : MethodName)) rfl hown (mvT hZ (hw _ (gw 4 rfl))) (mvT hZ (hw _ (gw 5 rfl))) (mvT hZ (hw _ (gw 6 rfl))) (by decide) (backOf (W := 1) (rm_ali l Z a0 hw [] b33 _ _ (0 : Int32) dce h11 n0 Z11 A11 F14 F15 F16 F13 g_b33) hZ (hw _ (gw 6 rfl)) (hw _ (gw 3 rfl)) (by decide) (by decide)) (g := (mkF m 37 #[.val (.int p0), .val (.int p1), .val (.int p2), .val (.int p3), .val (.int p4), .val (.int p5), .val (.int v6), .val (.int v12), .val (.int v18), .val (.int v24), .val (.int v31), .unset, .unset, .unset, .unset, .unset, .unset] [(.ref b33), (.ref b33)])) rfl (by rw [hml]; rfl) (Steps.refl _) (a := b33) (argsL := []) (rest := [(.ref b33)]) (lenOf law4_pd0 rfl) rfl (by show 2 * 0 + _ ≤ _; exact Nat.le_of_eq rfl) (hb hby at_37) (fun _ _ => ⟨rfl, e11, (by decide : 1 + 0 ≤ _), (by decide : 3 + 0 ≤ _)⟩)
  dsimp only [Pt.U, Pt.locs, Pt.cells, Pt.slots] at X17 l17 y17 z17 st17 hQ17
  rw [l17, y17, z17] at X17
  obtain ⟨h17, e17⟩ : ∃ z, T17.heap = z := ⟨_, rfl⟩
  rw [e17] at hQ17
  obtain ⟨rfl, N17q, Kq17, F18, F19, F20, F21⟩ := hQ17
  have N17 := Fr.app N0 N17q
  have Z17 : n0 ≤ h17.size := Nat.le_trans Z11 Kq17.1
  have F22 := F12.keep Kq17 (ninS ne_dce_b33 nin0)
  have F23 := own_keepS F13 Kq17 (allS (own_plE A11) all0)
  obtain ⟨T24, h24, X24, e24, E24, A24, D24, -, st24⟩ := newO X17 hx hZ hown (hw _ (gw 57 rfl)) (hw _ (gw 58 rfl)) (hw _ (gw 59 rfl)) e17 (g := (mkF m 49 #[.val (.int p0), .val (.int p1), .val (.int p2), .val (.int p3), .val (.int p4), .val (.int p5), .val (.int v6), .val (.int v12), .val (.int v18), .val (.int v24), .val (.int v31), .val (.ref b33), .unset, .unset, .unset, .unset, .unset] [(.ref b33)])) rfl (hb hby at_49) (by decide) (by decide)
  obtain ⟨b49, g24⟩ : ∃ z, z = h17.size := ⟨_, rfl⟩
  have g_b49 : n0 ≤ b49 := Nat.le_trans Z17 (Nat.le_of_eq g24.symm)
  have ne_dce_b49 : dce ≠ b49 := Nat.ne_of_lt (Nat.lt_of_lt_of_le F22.lt (Nat.le_of_eq g24.symm))
  have ne_b33_b49 : b33 ≠ b49 := Nat.ne_of_lt (Nat.lt_of_lt_of_le F18.lt (Nat.le_of_eq g24.symm))
  rw [← g24] at A24 D24 st24
  have Z24 : n0 ≤ h24.size := Nat.le_trans Z17 E24.1
  have F25 := F22.ext E24
  have F26 := Sta.ext E24 F23
  have F27 := Exa.ext E24 F18
  have F28 := Fld.ext E24 F19
  have F29 := Fld.ext E24 F20
  have F30 := Fld.ext E24 F21
  have F31 : Fld Z h24 b49 "com/example/termwright/termwright/Commit$Segment" "name" "Ljava/lang/String;" .null := D24 (Or.inr (hw _ (gw 81 rfl))) (ty := (.object "java/lang/String")) (by decide)
  have F32 : Fld Z h24 b49 "com/example/termwright/termwright/Commit$Segment" "documentCount" "I" (.int (0 : Int32)) := D24 (Or.inr (hw _ (gw 83 rfl))) (ty := .int) (by decide)
  have F33 : Fld Z h24 b49 "com/example/termwright/termwright/Commit$Segment" "length" "J" (.long (0 : Int64)) := D24 (Or.inr (hw _ (gw 85 rfl))) (ty := .long) (by decide)
  have F34 : Fld Z h24 b49 "com/example/termwright/termwright/Commit$Segment" "checksum" "I" (.int (0 : Int32)) := D24 (Or.inr (hw _ (gw 87 rfl))) (ty := .int) (by decide)
  have F35 : Fld Z h24 b49 "com/example/termwright/termwright/Commit$Segment" "deletions" "Lcom/example/termwright/termwright/Commit$DeletionsFile;" .null := D24 (Or.inr (hw _ (gw 89 rfl))) (ty := (.object "com/example/termwright/termwright/Commit$DeletionsFile")) (by decide)
  obtain ⟨lit53, T36, h36, k36, X36, e36, E36, hS36, hk36, hZ, hown, st36⟩ := ldcS (show Stand p l e room_1 (s.setVm s.vm) m #[(.int p0), (.int p1), (.int p2), (.int p3), (.int p4), (.int p5)] below meth c T24 _ _ _ from X24) hx hZ hown (hw _ (gw 60 rfl)) hstr e24 ((State.WarmedH.refl s).since n0) Z24 (g := (mkF m 53 #[.val (.int p0), .val (.int p1), .val (.int p2), .val (.int p3), .val (.int p4), .val (.int p5), .val (.int v6), .val (.int v12), .val (.int v18), .val (.int v24), .val (.int v31), .val (.ref b33), .unset, .unset, .unset, .unset, .unset] [(.ref b49), (.ref b49), (.ref b33)])) rfl (hb hby at_53) (n := 4) (by decide) (by decide) (by decide) (by decide)
  have Z36 : n0 ≤ h36.size := Nat.le_trans Z24 E36.1
  have F37 := F25.ext E36
  have F38 := Sta.ext E36 F26
  have F39 := Exa.ext E36 F27
  have F40 := Fld.ext E36 F28
  have F41 := Fld.ext E36 F29
  have F42 := Fld.ext E36 F30
  have F43 := Exa.ext E36 A24
  have F44 := Fld.ext E36 F31
  have F45 := Fld.ext E36 F32
  have F46 := Fld.ext E36 F33
  have F47 := Fld.ext E36 F34
  have F48 := Fld.ext E36 F35
  obtain ⟨_, _, ⟨T49, L49, k49, n49⟩, -, X49, ⟨Lc49, hQ49, l49, y49, z49⟩, st49⟩ := X36.specialBack hx (y := (⟨"com/example/termwright/termwright/Commit$Segment", "<init>", "(Ljava/lang/String;IJI)V"⟩ : MethodName)) rfl hown (mvT hZ (hw _ (gw 68 rfl))) (mvT hZ (hw _ (gw 69 rfl))) (mvT hZ (hw _ (gw 70 rfl))) (by decide) (backOf (W := 2) (rm_sgo l Z a0 hw [] b49 lit53 v12 (0 : Int64) (0 : Int32) _ _ _ _ _ h36 n0 Z36 F43 F44 F45 F46 F47 F48 g_b49) hZ (hw _ (gw 70 rfl)) (hw _ (gw 59 rfl)) (by decide) (by decide)) (g := (mkF m 59 #[.val (.int p0), .val (.int p1), .val (.int p2), .val (.int p3), .val (.int p4), .val (.int p5), .val (.int v6), .val (.int v12), .val (.int v18), .val (.int v24), .val (.int v31), .val (.ref b33), .unset, .unset, .unset, .unset, .unset] [(.int (0 : Int32)), (.long (0 : Int64)), (.int v12), (.ref lit53), (.ref b49), (.ref b49), (.ref b33)])) rfl (by rw [hml]; rfl) (Steps.refl _) (a := b49) (argsL := [(.ref lit53), (.int v12), (.long (0 : Int64)), (.int (0 : Int32))]) (rest := [(.ref b49), (.ref b33)]) (lenOf law4_pd1 rfl) rfl (by show 2 * 0 + _ ≤ _; exact Nat.le_of_eq rfl) (hb hby at_59) (fun _ _ => ⟨rfl, e36, (by decide : 4 + 0 ≤ _), (by decide : 16 + 0 ≤ _)⟩)
  dsimp only [Pt.U, Pt.locs, Pt.cells, Pt.slots] at X49 l49 y49 z49 st49 hQ49
  rw [l49, y49, z49] at X49
  obtain ⟨h49, e49⟩ : ∃ z, T49.heap = z := ⟨_, rfl⟩
  rw [e49] at hQ49
  obtain ⟨rfl, N49q, Kq49, F50, F51, F52⟩ := hQ49
  have N49 := Fr.app N17 N49q
  have Z49 : n0 ≤ h49.size := Nat.le_trans Z36 Kq49.1
  have Y49 : k36 ≤ h49.size := Nat.le_trans hk36 Kq49.1
  have F53 := F37.keep Kq49 (ninS ne_dce_b49 nin0)
  have F54 := own_keepS F38 Kq49 (allS (own_plE F43) all0)
  have F55 := F39.keep Kq49
  have F56 := F40.keep Kq49 (ninS ne_b33_b49 nin0)
  have F57 := F41.keep Kq49 (ninS ne_b33_b49 nin0)
  have F58 := F42.keep Kq49 (ninS ne_b33_b49 nin0)
  obtain ⟨cq59, kq59, q59a, q59b, q59c⟩ := isOf hZ e49 F55
  obtain ⟨_, _, ⟨T59, L59, k59, n59⟩, -, X59, ⟨Lc59, hQ59, l59, y59, z59⟩, st59⟩ := X49.virtualBack hx (y := (⟨"java/util/ArrayList", "add", "(Ljava/lang/Object;)Z"⟩ : MethodName)) (z := (⟨"java/util/ArrayList", "add", "(Ljava/lang/Object;)Z"⟩ : MethodName)) hown (mvT hZ (hw _ (gw 90 rfl))) (mvT hZ (hw _ (gw 91 rfl))) (notFace_of_selects (args := #[]) (mvT hZ (hw _ (gw 93 rfl)))) (mvT hZ (hw _ (gw 93 rfl))) (mvT hZ (hw _ (gw 92 rfl))) (by decide) (backOf (W := 0) (rm_ada l Z a0 hw [] b33 b49 (0 : Int32) dce h49 n0 Z49 F55 F56 F57 F58 F53 F54 F50 g_b33 (Ne.symm ne_dce_b33) ne_b33_b49) hZ (hw _ (gw 94 rfl)) (hw _ (gw 3 rfl)) (by decide) (by decide)) q59a q59c (g := (mkF m 62 #[.val (.int p0), .val (.int p1), .val (.int p2), .val (.int p3), .val (.int p4), .val (.int p5), .val (.int v6), .val (.int v12), .val (.int v18), .val (.int v24), .val (.int v31), .val (.ref b33), .unset, .unset, .unset, .unset, .unset] [(.ref b49), (.ref b33)])) rfl (by rw [hml]; rfl) (Steps.refl _) (argsL := [(.ref b49)]) (rest := []) (lenOf law4_pd2 rfl) rfl (by show 2 * 0 + _ ≤ _; exact Nat.le_of_eq rfl) (hb hby at_62) (fun _ _ => ⟨rfl, e49, (by decide : 4 + 1 ≤ _), (by decide : 16 + 10 ≤ _)⟩)
  dsimp only [Pt.U, Pt.locs, Pt.cells, Pt.slots] at X59 l59 y59 z59 st59 hQ59
  rw [l59, y59, z59] at X59
  obtain ⟨h59, e59⟩ : ∃ z, T59.heap = z := ⟨_, rfl⟩
  rw [e59] at hQ59
  obtain ⟨ed, rfl, N59q, Kq59, gs_ed, F60, F61, F62, F63, F64⟩ := hQ59
  have N59 := Fr.app N49 N59q
  have g_ed : n0 ≤ ed := Nat.le_trans Z49 gs_ed
  have ne_dce_ed : dce ≠ ed := Nat.ne_of_lt (Nat.lt_of_lt_of_le F53.lt gs_ed)
  have ne_b33_ed : b33 ≠ ed := Nat.ne_of_lt (Nat.lt_of_lt_of_le F55.lt gs_ed)
  have ne_b49_ed : b49 ≠ ed := Nat.ne_of_lt (Nat.lt_of_lt_of_le F50.lt gs_ed)
  have Z59 : n0 ≤ h59.size := Nat.le_trans Z49 Kq59.1
  have Y59 : k36 ≤ h59.size := Nat.le_trans Y49 Kq59.1
  have F65 := F53.keep Kq59 (ninS ne_dce_b33 nin0)
  have F66 := own_keepS F54 Kq59 (allS (own_plE F55) all0)
  have F67 := F50.keep Kq59
  have F68 := F51.keep Kq59 (ninS (Ne.symm ne_b33_b49) nin0)
  have F69 := F52.keep Kq59 (ninS (Ne.symm ne_b33_b49) nin0)
  obtain ⟨T70, h70, X70, e70, E70, A70, D70, -, st70⟩ := newO X59 hx hZ hown (hw _ (gw 57 rfl)) (hw _ (gw 58 rfl)) (hw _ (gw 59 rfl)) e59 (g := (mkF m 74 #[.val (.int p0), .val (.int p1), .val (.int p2), .val (.int p3), .val (.int p4), .val (.int p5), .val (.int v6), .val (.int v12), .val (.int v18), .val (.int v24), .val (.int v31), .val (.ref b33), .unset, .unset, .unset, .unset, .unset] [(.ref b33)])) rfl (hb hby at_74) (by decide) (by decide)
  obtain ⟨b74, g70⟩ : ∃ z, z = h59.size := ⟨_, rfl⟩
  have g_b74 : n0 ≤ b74 := Nat.le_trans Z59 (Nat.le_of_eq g70.symm)
  have ne_dce_b74 : dce ≠ b74 := Nat.ne_of_lt (Nat.lt_of_lt_of_le F65.lt (Nat.le_of_eq g70.symm))
  have ne_b33_b74 : b33 ≠ b74 := Nat.ne_of_lt (Nat.lt_of_lt_of_le F60.lt (Nat.le_of_eq g70.symm))
  have ne_b49_b74 : b49 ≠ b74 := Nat.ne_of_lt (Nat.lt_of_lt_of_le F67.lt (Nat.le_of_eq g70.symm))
  have ne_ed_b74 : ed ≠ b74 := Nat.ne_of_lt (Nat.lt_of_lt_of_le F64.lt (Nat.le_of_eq g70.symm))
  rw [← g70] at A70 D70 st70
  have Z70 : n0 ≤ h70.size := Nat.le_trans Z59 E70.1
  have Y70 : k36 ≤ h70.size := Nat.le_trans Y59 E70.1
  have F71 := F65.ext E70
  have F72 := Sta.ext E70 F66
  have F73 := Exa.ext E70 F60
  have F74 := Fld.ext E70 F61
  have F75 := Fld.ext E70 F62
  have F76 := Fld.ext E70 F63
  have F77 := Exa.ext E70 F67
  have F78 := Fld.ext E70 F68
  have F79 := Fld.ext E70 F69
  have F80 := F64.ext E70
  have F81 : Fld Z h70 b74 "com/example/termwright/termwright/Commit$Segment" "name" "Ljava/lang/String;" .null := D70 (Or.inr (hw _ (gw 81 rfl))) (ty := (.object "java/lang/String")) (by decide)
  have F82 : Fld Z h70 b74 "com/example/termwright/termwright/Commit$Segment" "documentCount" "I" (.int (0 : Int32)) := D70 (Or.inr (hw _ (gw 83 rfl))) (ty := .int) (by decide)
  have F83 : Fld Z h70 b74 "com/example/termwright/termwright/Commit$Segment" "length" "J" (.long (0 : Int64)) := D70 (Or.inr (hw _ (gw 85 rfl))) (ty := .long) (by decide)
  have F84 : Fld Z h70 b74 "com/example/termwright/termwright/Commit$Segment" "checksum" "I" (.int (0 : Int32)) := D70 (Or.inr (hw _ (gw 87 rfl))) (ty := .int) (by decide)
  have F85 : Fld Z h70 b74 "com/example/termwright/termwright/Commit$Segment" "deletions" "Lcom/example/termwright/termwright/Commit$DeletionsFile;" .null := D70 (Or.inr (hw _ (gw 89 rfl))) (ty := (.object "com/example/termwright/termwright/Commit$DeletionsFile")) (by decide)
  obtain ⟨lit78, T86, h86, k86, X86, e86, E86, hS86, hk86, hZ, hown, st86⟩ := ldcS X70 hx hZ hown (hw _ (gw 60 rfl)) hstr e70 hS36 Y70 (g := (mkF m 78 #[.val (.int p0), .val (.int p1), .val (.int p2), .val (.int p3), .val (.int p4), .val (.int p5), .val (.int v6), .val (.int v12), .val (.int v18), .val (.int v24), .val (.int v31), .val (.ref b33), .unset, .unset, .unset, .unset, .unset] [(.ref b74), (.ref b74), (.ref b33)])) rfl (hb hby at_78) (n := 4) (by decide) (by decide) (by decide) (by decide)
  have Z86 : n0 ≤ h86.size := Nat.le_trans Z70 E86.1
  have F87 := F71.ext E86
  have F88 := Sta.ext E86 F72
  have F89 := Exa.ext E86 F73
  have F90 := Fld.ext E86 F74
  have F91 := Fld.ext E86 F75
  have F92 := Fld.ext E86 F76
  have F93 := Exa.ext E86 F77
  have F94 := Fld.ext E86 F78
  have F95 := Fld.ext E86 F79
  have F96 := F80.ext E86
  have F97 := Exa.ext E86 A70
  have F98 := Fld.ext E86 F81
  have F99 := Fld.ext E86 F82
  have F100 := Fld.ext E86 F83
  have F101 := Fld.ext E86 F84
  have F102 := Fld.ext E86 F85
  obtain ⟨_, _, ⟨T103, L103, k103, n103⟩, -, X103, ⟨Lc103, hQ103, l103, y103, z103⟩, st103⟩ := X86.specialBack hx (y := (⟨"com/example/termwright/termwright/Commit$Segment", "<init>", "(Ljava/lang/String;IJI)V"⟩ : MethodName)) rfl hown (mvT hZ (hw _ (gw 68 rfl))) (mvT hZ (hw _ (gw 69 rfl))) (mvT hZ (hw _ (gw 70 rfl))) (by decide) (backOf (W := 2) (rm_sgo l Z a0 hw [] b74 lit78 v18 (0 : Int64) (0 : Int32) _ _ _ _ _ h86 n0 Z86 F97 F98 F99 F100 F101 F102 g_b74) hZ (hw _ (gw 70 rfl)) (hw _ (gw 59 rfl)) (by decide) (by decide)) (g := (mkF m 84 #[.val (.int p0), .val (.int p1), .val (.int p2), .val (.int p3), .val (.int p4), .val (.int p5), .val (.int v6), .val (.int v12), .val (.int v18), .val (.int v24), .val (.int v31), .val (.ref b33), .unset, .unset, .unset, .unset, .unset] [(.int (0 : Int32)), (.long (0 : Int64)), (.int v18), (.ref lit78), (.ref b74), (.ref b74), (.ref b33)])) rfl (by rw [hml]; rfl) (Steps.refl _) (a := b74) (argsL := [(.ref lit78), (.int v18), (.long (0 : Int64)), (.int (0 : Int32))]) (rest := [(.ref b74), (.ref b33)]) (lenOf law4_pd1 rfl) rfl (by show 2 * 0 + _ ≤ _; exact Nat.le_of_eq rfl) (hb hby at_84) (fun _ _ => ⟨rfl, e86, (by decide : 8 + 0 ≤ _), (by decide : 39 + 0 ≤ _)⟩)
  dsimp only [Pt.U, Pt.locs, Pt.cells, Pt.slots] at X103 l103 y103 z103 st103 hQ103
  rw [l103, y103, z103] at X103
  obtain ⟨h103, e103⟩ : ∃ z, T103.heap = z := ⟨_, rfl⟩
  rw [e103] at hQ103
  obtain ⟨rfl, N103q, Kq103, F104, F105, F106⟩ := hQ103
  have N103 := Fr.app N59 N103q
  have Z103 : n0 ≤ h103.size := Nat.le_trans Z86 Kq103.1
  have Y103 : k86 ≤ h103.size := Nat.le_trans hk86 Kq103.1
  have F107 := F87.keep Kq103 (ninS ne_dce_b74 nin0)
  have F108 := own_keepS F88 Kq103 (allS (own_plE F97) all0)
  have F109 := F89.keep Kq103
  have F110 := F90.keep Kq103 (ninS ne_b33_b74 nin0)
  have F111 := F91.keep Kq103 (ninS ne_b33_b74 nin0)
  have F112 := F92.keep Kq103 (ninS ne_b33_b74 nin0)
  have F113 := F93.keep Kq103
  have F114 := F94.keep Kq103 (ninS ne_b49_b74 nin0)
  have F115 := F95.keep Kq103 (ninS ne_b49_b74 nin0)
  have F116 := F96.keep Kq103 (ninS ne_ed_b74 nin0)
  obtain ⟨cq117, kq117, q117a, q117b, q117c⟩ := isOf hZ e103 F109
  obtain ⟨_, _, ⟨T117, L117, k117, n117⟩, -, X117, ⟨Lc117, hQ117, l117, y117, z117⟩, st117⟩ := X103.virtualBack hx (y := (⟨"java/util/ArrayList", "add", "(Ljava/lang/Object;)Z"⟩ : MethodName)) (z := (⟨"java/util/ArrayList", "add", "(Ljava/lang/Object;)Z"⟩ : MethodName)) hown (mvT hZ (hw _ (gw 90 rfl))) (mvT hZ (hw _ (gw 91 rfl))) (notFace_of_selects (args := #[]) (mvT hZ (hw _ (gw 93 rfl)))) (mvT hZ (hw _ (gw 93 rfl))) (mvT hZ (hw _ (gw 92 rfl))) (by decide) (backOf (W := 0) (rm_adb l Z a0 hw [] b33 b74 (1 : Int32) ed ((0 : Int32) + (1 : Int32)) (2 : Int32) (updV (fun _ => .null) 0 (.ref b49)) 1 h103 n0 Z103 F109 F110 F111 F112 F116 F104 g_b33 g_ed ne_b33_ed ne_b33_b74 ne_ed_b74 (by decide) (by decide) (by decide) (by decide) (by decide)) hZ (hw _ (gw 94 rfl)) (hw _ (gw 3 rfl)) (by decide) (by decide)) q117a q117c (g := (mkF m 87 #[.val (.int p0), .val (.int p1), .val (.int p2), .val (.int p3), .val (.int p4), .val (.int p5), .val (.int v6), .val (.int v12), .val (.int v18), .val (.int v24), .val (.int v31), .val (.ref b33), .unset, .unset, .unset, .unset, .unset] [(.ref b74), (.ref b33)])) rfl (by rw [hml]; rfl) (Steps.refl _) (argsL := [(.ref b74)]) (rest := []) (lenOf law4_pd2 rfl) rfl (by show 2 * 0 + _ ≤ _; exact Nat.le_of_eq rfl) (hb hby at_87) (fun _ _ => ⟨rfl, e103, (by decide : 8 + 0 ≤ _), (by decide : 39 + 0 ≤ _)⟩)
  dsimp only [Pt.U, Pt.locs, Pt.cells, Pt.slots] at X117 l117 y117 z117 st117 hQ117
  rw [l117, y117, z117] at X117
  obtain ⟨h117, e117⟩ : ∃ z, T117.heap = z := ⟨_, rfl⟩
  rw [e117] at hQ117
  obtain ⟨rfl, N117q, Kq117, F118, F119, F120, F121, F122⟩ := hQ117
  have N117 := Fr.app N103 N117q
  have Z117 : n0 ≤ h117.size := Nat.le_trans Z103 Kq117.1
  have Y117 : k86 ≤ h117.size := Nat.le_trans Y103 Kq117.1
  have F123 := F107.keep Kq117 (ninS ne_dce_b33 (ninS ne_dce_ed nin0))
  have F124 := own_keepS F108 Kq117 (allS (own_plE F109) (allS (own_plR F116) all0))
  have F125 := F113.keep Kq117
  have F126 := F114.keep Kq117 (ninS (Ne.symm ne_b33_b49) (ninS ne_b49_ed nin0))
  have F127 := F115.keep Kq117 (ninS (Ne.symm ne_b33_b49) (ninS ne_b49_ed nin0))
  have F128 := F104.keep Kq117
  have F129 := F105.keep Kq117 (ninS (Ne.symm ne_b33_b74) (ninS (Ne.symm ne_ed_b74) nin0))
  have F130 := F106.keep Kq117 (ninS (Ne.symm ne_b33_b74) (ninS (Ne.symm ne_ed_b74) nin0))
  obtain ⟨T131, h131, X131, e131, E131, A131, D131, -, st131⟩ := newO X117 hx hZ hown (hw _ (gw 57 rfl)) (hw _ (gw 58 rfl)) (hw _ (gw 59 rfl)) e117 (g := (mkF m 99 #[.val (.int p0), .val (.int p1), .val (.int p2), .val (.int p3), .val (.int p4), .val (.int p5), .val (.int v6), .val (.int v12), .val (.int v18), .val (.int v24), .val (.int v31), .val (.ref b33), .unset, .unset, .unset, .unset, .unset] [(.ref b33)])) rfl (hb hby at_99) (by decide) (by decide)
  obtain ⟨b99, g131⟩ : ∃ z, z = h117.size := ⟨_, rfl⟩
  have g_b99 : n0 ≤ b99 := Nat.le_trans Z117 (Nat.le_of_eq g131.symm)
  have ne_dce_b99 : dce ≠ b99 := Nat.ne_of_lt (Nat.lt_of_lt_of_le F123.lt (Nat.le_of_eq g131.symm))
  have ne_b33_b99 : b33 ≠ b99 := Nat.ne_of_lt (Nat.lt_of_lt_of_le F118.lt (Nat.le_of_eq g131.symm))
  have ne_b49_b99 : b49 ≠ b99 := Nat.ne_of_lt (Nat.lt_of_lt_of_le F125.lt (Nat.le_of_eq g131.symm))
  have ne_ed_b99 : ed ≠ b99 := Nat.ne_of_lt (Nat.lt_of_lt_of_le F122.lt (Nat.le_of_eq g131.symm))
  have ne_b74_b99 : b74 ≠ b99 := Nat.ne_of_lt (Nat.lt_of_lt_of_le F128.lt (Nat.le_of_eq g131.symm))
  rw [← g131] at A131 D131 st131
  have Z131 : n0 ≤ h131.size := Nat.le_trans Z117 E131.1
  have Y131 : k86 ≤ h131.size := Nat.le_trans Y117 E131.1
  have F132 := F123.ext E131
  have F133 := Sta.ext E131 F124
  have F134 := Exa.ext E131 F118
  have F135 := Fld.ext E131 F119
  have F136 := Fld.ext E131 F120
  have F137 := Fld.ext E131 F121
  have F138 := Exa.ext E131 F125
  have F139 := Fld.ext E131 F126
  have F140 := Fld.ext E131 F127
  have F141 := F122.ext E131
  have F142 := Exa.ext E131 F128
  have F143 := Fld.ext E131 F129
  have F144 := Fld.ext E131 F130
  have F145 : Fld Z h131 b99 "com/example/termwright/termwright/Commit$Segment" "name" "Ljava/lang/String;" .null := D131 (Or.inr (hw _ (gw 81 rfl))) (ty := (.object "java/lang/String")) (by decide)
  have F146 : Fld Z h131 b99 "com/example/termwright/termwright/Commit$Segment" "documentCount" "I" (.int (0 : Int32)) := D131 (Or.inr (hw _ (gw 83 rfl))) (ty := .int) (by decide)
  have F147 : Fld Z h131 b99 "com/example/termwright/termwright/Commit$Segment" "length" "J" (.long (0 : Int64)) := D131 (Or.inr (hw _ (gw 85 rfl))) (ty := .long) (by decide)
  have F148 : Fld Z h131 b99 "com/example/termwright/termwright/Commit$Segment" "checksum" "I" (.int (0 : Int32)) := D131 (Or.inr (hw _ (gw 87 rfl))) (ty := .int) (by decide)
  have F149 : Fld Z h131 b99 "com/example/termwright/termwright/Commit$Segment" "deletions" "Lcom/example/termwright/termwright/Commit$DeletionsFile;" .null := D131 (Or.inr (hw _ (gw 89 rfl))) (ty := (.object "com/example/termwright/termwright/Commit$DeletionsFile")) (by decide)
  obtain ⟨lit103, T150, h150, k150, X150, e150, E150, hS150, hk150, hZ, hown, st150⟩ := ldcS X131 hx hZ hown (hw _ (gw 60 rfl)) hstr e131 hS86 Y131 (g := (mkF m 103 #[.val (.int p0), .val (.int p1), .val (.int p2), .val (.int p3), .val (.int p4), .val (.int p5), .val (.int v6), .val (.int v12), .val (.int v18), .val (.int v24), .val (.int v31), .val (.ref b33), .unset, .unset, .unset, .unset, .unset] [(.ref b99), (.ref b99), (.ref b33)])) rfl (hb hby at_103) (n := 4) (by decide) (by decide) (by decide) (by decide)
  have Z150 : n0 ≤ h150.size := Nat.le_trans Z131 E150.1
  have F151 := F132.ext E150
  have F152 := Sta.ext E150 F133
  have F153 := Exa.ext E150 F134
  have F154 := Fld.ext E150 F135
  have F155 := Fld.ext E150 F136
  have F156 := Fld.ext E150 F137
  have F157 := Exa.ext E150 F138
  have F158 := Fld.ext E150 F139
  have F159 := Fld.ext E150 F140
  have F160 := F141.ext E150
  have F161 := Exa.ext E150 F142
  have F162 := Fld.ext E150 F143
  have F163 := Fld.ext E150 F144
  have F164 := Exa.ext E150 A131
  have F165 := Fld.ext E150 F145
  have F166 := Fld.ext E150 F146
  have F167 := Fld.ext E150 F147
  have F168 := Fld.ext E150 F148
  have F169 := Fld.ext E150 F149
  obtain ⟨_, _, ⟨T170, L170, k170, n170⟩, -, X170, ⟨Lc170, hQ170, l170, y170, z170⟩, st170⟩ := X150.specialBack hx (y := (⟨"com/example/termwright/termwright/Commit$Segment", "<init>", "(Ljava/lang/String;IJI)V"⟩ : MethodName)) rfl hown (mvT hZ (hw _ (gw 68 rfl))) (mvT hZ (hw _ (gw 69 rfl))) (mvT hZ (hw _ (gw 70 rfl))) (by decide) (backOf (W := 2) (rm_sgo l Z a0 hw [] b99 lit103 v24 (0 : Int64) (0 : Int32) _ _ _ _ _ h150 n0 Z150 F164 F165 F166 F167 F168 F169 g_b99) hZ (hw _ (gw 70 rfl)) (hw _ (gw 59 rfl)) (by decide) (by decide)) (g := (mkF m 109 #[.val (.int p0), .val (.int p1), .val (.int p2), .val (.int p3), .val (.int p4), .val (.int p5), .val (.int v6), .val (.int v12), .val (.int v18), .val (.int v24), .val (.int v31), .val (.ref b33), .unset, .unset, .unset, .unset, .unset] [(.int (0 : Int32)), (.long (0 : Int64)), (.int v24), (.ref lit103), (.ref b99), (.ref b99), (.ref b33)])) rfl (by rw [hml]; rfl) (Steps.refl _) (a := b99) (argsL := [(.ref lit103), (.int v24), (.long (0 : Int64)), (.int (0 : Int32))]) (rest := [(.ref b99), (.ref b33)]) (lenOf law4_pd1 rfl) rfl (by show 2 * 0 + _ ≤ _; exact Nat.le_of_eq rfl) (hb hby at_109) (fun _ _ => ⟨rfl, e150, (by decide : 11 + 0 ≤ _), (by decide : 52 + 0 ≤ _)⟩)
  dsimp only [Pt.U, Pt.locs, Pt.cells, Pt.slots] at X170 l170 y170 z170 st170 hQ170
  rw [l170, y170, z170] at X170
  obtain ⟨h170, e170⟩ : ∃ z, T170.heap = z := ⟨_, rfl⟩
  rw [e170] at hQ170
  obtain ⟨rfl, N170q, Kq170, F171, F172, F173⟩ := hQ170
  have N170 := Fr.app N117 N170q
  have Z170 : n0 ≤ h170.size := Nat.le_trans Z150 Kq170.1
  have Y170 : k150 ≤ h170.size := Nat.le_trans hk150 Kq170.1
  have F174 := F151.keep Kq170 (ninS ne_dce_b99 nin0)
  have F175 := own_keepS F152 Kq170 (allS (own_plE F164) all0)
  have F176 := F153.keep Kq170
  have F177 := F154.keep Kq170 (ninS ne_b33_b99 nin0)
  have F178 := F155.keep Kq170 (ninS ne_b33_b99 nin0)
  have F179 := F156.keep Kq170 (ninS ne_b33_b99 nin0)
  have F180 := F157.keep Kq170
  have F181 := F158.keep Kq170 (ninS ne_b49_b99 nin0)
  have F182 := F159.keep Kq170 (ninS ne_b49_b99 nin0)
  have F183 := F160.keep Kq170 (ninS ne_ed_b99 nin0)
  have F184 := F161.keep Kq170
  have F185 := F162.keep Kq170 (ninS ne_b74_b99 nin0)
  have F186 := F163.keep Kq170 (ninS ne_b74_b99 nin0)
  obtain ⟨cq187, kq187, q187a, q187b, q187c⟩ := isOf hZ e170 F176
  obtain ⟨_, _, ⟨T187, L187, k187, n187⟩, -, X187, ⟨Lc187, hQ187, l187, y187, z187⟩, st187⟩ := X170.virtualBack hx (y := (⟨"java/util/ArrayList", "add", "(Ljava/lang/Object;)Z"⟩ : MethodName)) (z := (⟨"java/util/ArrayList", "add", "(Ljava/lang/Object;)Z"⟩ : MethodName)) hown (mvT hZ (hw _ (gw 90 rfl))) (mvT hZ (hw _ (gw 91 rfl))) (notFace_of_selects (args := #[]) (mvT hZ (hw _ (gw 93 rfl)))) (mvT hZ (hw _ (gw 93 rfl))) (mvT hZ (hw _ (gw 92 rfl))) (by decide) (backOf (W := 0) (rm_adb l Z a0 hw [] b33 b99 (2 : Int32) ed (((0 : Int32) + (1 : Int32)) + (1 : Int32)) (3 : Int32) (updV (updV (fun _ => .null) 0 (.ref b49)) 1 (.ref b74)) 2 h170 n0 Z170 F176 F177 F178 F179 F183 F171 g_b33 g_ed ne_b33_ed ne_b33_b99 ne_ed_b99 (by decide) (by decide) (by decide) (by decide) (by decide)) hZ (hw _ (gw 94 rfl)) (hw _ (gw 3 rfl)) (by decide) (by decide)) q187a q187c (g := (mkF m 112 #[.val (.int p0), .val (.int p1), .val (.int p2), .val (.int p3), .val (.int p4), .val (.int p5), .val (.int v6), .val (.int v12), .val (.int v18), .val (.int v24), .val (.int v31), .val (.ref b33), .unset, .unset, .unset, .unset, .unset] [(.ref b99), (.ref b33)])) rfl (by rw [hml]; rfl) (Steps.refl _) (argsL := [(.ref b99)]) (rest := []) (lenOf law4_pd2 rfl) rfl (by show 2 * 0 + _ ≤ _; exact Nat.le_of_eq rfl) (hb hby at_112) (fun _ _ => ⟨rfl, e170, (by decide : 11 + 0 ≤ _), (by decide : 52 + 0 ≤ _)⟩)
  dsimp only [Pt.U, Pt.locs, Pt.cells, Pt.slots] at X187 l187 y187 z187 st187 hQ187
  rw [l187, y187, z187] at X187
  obtain ⟨h187, e187⟩ : ∃ z, T187.heap = z := ⟨_, rfl⟩
  rw [e187] at hQ187
  obtain ⟨rfl, N187q, Kq187, F188, F189, F190, F191, F192⟩ := hQ187
  have N187 := Fr.app N170 N187q
  have Z187 : n0 ≤ h187.size := Nat.le_trans Z170 Kq187.1
  have Y187 : k150 ≤ h187.size := Nat.le_trans Y170 Kq187.1
  have F193 := F174.keep Kq187 (ninS ne_dce_b33 (ninS ne_dce_ed nin0))
  have F194 := own_keepS F175 Kq187 (allS (own_plE F176) (allS (own_plR F183) all0))
  have F195 := F180.keep Kq187
  have F196 := F181.keep Kq187 (ninS (Ne.symm ne_b33_b49) (ninS ne_b49_ed nin0))
  have F197 := F182.keep Kq187 (ninS (Ne.symm ne_b33_b49) (ninS ne_b49_ed nin0))
  have F198 := F184.keep Kq187
  have F199 := F185.keep Kq187 (ninS (Ne.symm ne_b33_b74) (ninS (Ne.symm ne_ed_b74) nin0))
  have F200 := F186.keep Kq187 (ninS (Ne.symm ne_b33_b74) (ninS (Ne.symm ne_ed_b74) nin0))
  have F201 := F171.keep Kq187
  have F202 := F172.keep Kq187 (ninS (Ne.symm ne_b33_b99) (ninS (Ne.symm ne_ed_b99) nin0))
  have F203 := F173.keep Kq187 (ninS (Ne.symm ne_b33_b99) (ninS (Ne.symm ne_ed_b99) nin0))
  obtain ⟨T204, h204, X204, e204, E204, A204, D204, -, st204⟩ := newO X187 hx hZ hown (hw _ (gw 57 rfl)) (hw _ (gw 58 rfl)) (hw _ (gw 59 rfl)) e187 (g := (mkF m 124 #[.val (.int p0), .val (.int p1), .val (.int p2), .val (.int p3), .val (.int p4), .val (.int p5), .val (.int v6), .val (.int v12), .val (.int v18), .val (.int v24), .val (.int v31), .val (.ref b33), .unset, .unset, .unset, .unset, .unset] [(.ref b33)])) rfl (hb hby at_124) (by decide) (by decide)
  obtain ⟨b124, g204⟩ : ∃ z, z = h187.size := ⟨_, rfl⟩
  have g_b124 : n0 ≤ b124 := Nat.le_trans Z187 (Nat.le_of_eq g204.symm)
  have ne_dce_b124 : dce ≠ b124 := Nat.ne_of_lt (Nat.lt_of_lt_of_le F193.lt (Nat.le_of_eq g204.symm))
  have ne_b33_b124 : b33 ≠ b124 := Nat.ne_of_lt (Nat.lt_of_lt_of_le F188.lt (Nat.le_of_eq g204.symm))
  have ne_b49_b124 : b49 ≠ b124 := Nat.ne_of_lt (Nat.lt_of_lt_of_le F195.lt (Nat.le_of_eq g204.symm))
  have ne_ed_b124 : ed ≠ b124 := Nat.ne_of_lt (Nat.lt_of_lt_of_le F192.lt (Nat.le_of_eq g204.symm))
  have ne_b74_b124 : b74 ≠ b124 := Nat.ne_of_lt (Nat.lt_of_lt_of_le F198.lt (Nat.le_of_eq g204.symm))
  have ne_b99_b124 : b99 ≠ b124 := Nat.ne_of_lt (Nat.lt_of_lt_of_le F201.lt (Nat.le_of_eq g204.symm))
  rw [← g204] at A204 D204 st204
  have Z204 : n0 ≤ h204.size := Nat.le_trans Z187 E204.1
  have Y204 : k150 ≤ h204.size := Nat.le_trans Y187 E204.1
  have F205 := F193.ext E204
  have F206 := Sta.ext E204 F194
  have F207 := Exa.ext E204 F188
  have F208 := Fld.ext E204 F189
  have F209 := Fld.ext E204 F190
  have F210 := Fld.ext E204 F191
  have F211 := Exa.ext E204 F195
  have F212 := Fld.ext E204 F196
  have F213 := Fld.ext E204 F197
  have F214 := F192.ext E204
  have F215 := Exa.ext E204 F198
  have F216 := Fld.ext E204 F199
  have F217 := Fld.ext E204 F200
  have F218 := Exa.ext E204 F201
  have F219 := Fld.ext E204 F202
  have F220 := Fld.ext E204 F203
  have F221 : Fld Z h204 b124 "com/example/termwright/termwright/Commit$Segment" "name" "Ljava/lang/String;" .null := D204 (Or.inr (hw _ (gw 81 rfl))) (ty := (.object "java/lang/String")) (by decide)
  have F222 : Fld Z h204 b124 "com/example/termwright/termwright/Commit$Segment" "documentCount" "I" (.int (0 : Int32)) := D204 (Or.inr (hw _ (gw 83 rfl))) (ty := .int) (by decide)
  have F223 : Fld Z h204 b124 "com/example/termwright/termwright/Commit$Segment" "length" "J" (.long (0 : Int64)) := D204 (Or.inr (hw _ (gw 85 rfl))) (ty := .long) (by decide)
  have F224 : Fld Z h204 b124 "com/example/termwright/termwright/Commit$Segment" "checksum" "I" (.int (0 : Int32)) := D204 (Or.inr (hw _ (gw 87 rfl))) (ty := .int) (by decide)
  have F225 : Fld Z h204 b124 "com/example/termwright/termwright/Commit$Segment" "deletions" "Lcom/example/termwright/termwright/Commit$DeletionsFile;" .null := D204 (Or.inr (hw _ (gw 89 rfl))) (ty := (.object "com/example/termwright/termwright/Commit$DeletionsFile")) (by decide)
  obtain ⟨lit128, T226, h226, k226, X226, e226, E226, hS226, hk226, hZ, hown, st226⟩ := ldcS X204 hx hZ hown (hw _ (gw 60 rfl)) hstr e204 hS150 Y204 (g := (mkF m 128 #[.val (.int p0), .val (.int p1), .val (.int p2), .val (.int p3), .val (.int p4), .val (.int p5), .val (.int v6), .val (.int v12), .val (.int v18), .val (.int v24), .val (.int v31), .val (.ref b33), .unset, .unset, .unset, .unset, .unset] [(.ref b124), (.ref b124), (.ref b33)])) rfl (hb hby at_128) (n := 4) (by decide) (by decide) (by decide) (by decide)
  have Z226 : n0 ≤ h226.size := Nat.le_trans Z204 E226.1
  have F227 := F205.ext E226
  have F228 := Sta.ext E226 F206
  have F229 := Exa.ext E226 F207
  have F230 := Fld.ext E226 F208
  have F231 := Fld.ext E226 F209
  have F232 := Fld.ext E226 F210
  have F233 := Exa.ext E226 F211
  have F234 := Fld.ext E226 F212
  have F235 := Fld.ext E226 F213
  have F236 := F214.ext E226
  have F237 := Exa.ext E226 F215
  have F238 := Fld.ext E226 F216
  have F239 := Fld.ext E226 F217
  have F240 := Exa.ext E226 F218
  have F241 := Fld.ext E226 F219
  have F242 := Fld.ext E226 F220
  have F243 := Exa.ext E226 A204
  have F244 := Fld.ext E226 F221
  have F245 := Fld.ext E226 F222
  have F246 := Fld.ext E226 F223
  have F247 := Fld.ext E226 F224
  have F248 := Fld.ext E226 F225
  obtain ⟨_, _, ⟨T249, L249, k249, n249⟩, -, X249, ⟨Lc249, hQ249, l249, y249, z249⟩, st249⟩ := X226.specialBack hx (y := (⟨"com/example/termwright/termwright/Commit$Segment", "<init>", "(Ljava/lang/String;IJI)V"⟩ : MethodName)) rfl hown (mvT hZ (hw _ (gw 68 rfl))) (mvT hZ (hw _ (gw 69 rfl))) (mvT hZ (hw _ (gw 70 rfl))) (by decide) (backOf (W := 2) (rm_sgo l Z a0 hw [] b124 lit128 v31 (0 : Int64) (0 : Int32) _ _ _ _ _ h226 n0 Z226 F243 F244 F245 F246 F247 F248 g_b124) hZ (hw _ (gw 70 rfl)) (hw _ (gw 59 rfl)) (by decide) (by decide)) (g := (mkF m 134 #[.val (.int p0), .val (.int p1), .val (.int p2), .val (.int p3), .val (.int p4), .val (.int p5), .val (.int v6), .val (.int v12), .val (.int v18), .val (.int v24), .val (.int v31), .val (.ref b33), .unset, .unset, .unset, .unset, .unset] [(.int (0 : Int32)), (.long (0 : Int64)), (.int v31), (.ref lit128), (.ref b124), (.ref b124), (.ref b33)])) rfl (by rw [hml]; rfl) (Steps.refl _) (a := b124) (argsL := [(.ref lit128), (.int v31), (.long (0 : Int64)), (.int (0 : Int32))]) (rest := [(.ref b124), (.ref b33)]) (lenOf law4_pd1 rfl) rfl (by show 2 * 0 + _ ≤ _; exact Nat.le_of_eq rfl) (hb hby at_134) (fun _ _ => ⟨rfl, e226, (by decide : 14 + 0 ≤ _), (by decide : 65 + 0 ≤ _)⟩)
  dsimp only [Pt.U, Pt.locs, Pt.cells, Pt.slots] at X249 l249 y249 z249 st249 hQ249
  rw [l249, y249, z249] at X249
  obtain ⟨h249, e249⟩ : ∃ z, T249.heap = z := ⟨_, rfl⟩
  rw [e249] at hQ249
  obtain ⟨rfl, N249q, Kq249, F250, F251, F252⟩ := hQ249
  have N249 := Fr.app N187 N249q
  have Z249 : n0 ≤ h249.size := Nat.le_trans Z226 Kq249.1
  have Y249 : k226 ≤ h249.size := Nat.le_trans hk226 Kq249.1
  have F253 := F227.keep Kq249 (ninS ne_dce_b124 nin0)
  have F254 := own_keepS F228 Kq249 (allS (own_plE F243) all0)
  have F255 := F229.keep Kq249
  have F256 := F230.keep Kq249 (ninS ne_b33_b124 nin0)
  have F257 := F231.keep Kq249 (ninS ne_b33_b124 nin0)
  have F258 := F232.keep Kq249 (ninS ne_b33_b124 nin0)
  have F259 := F233.keep Kq249
  have F260 := F234.keep Kq249 (ninS ne_b49_b124 nin0)
  have F261 := F235.keep Kq249 (ninS ne_b49_b124 nin0)
  have F262 := F236.keep Kq249 (ninS ne_ed_b124 nin0)
  have F263 := F237.keep Kq249
  have F264 := F238.keep Kq249 (ninS ne_b74_b124 nin0)
  have F265 := F239.keep Kq249 (ninS ne_b74_b124 nin0)
  have F266 := F240.keep Kq249
  have F267 := F241.keep Kq249 (ninS ne_b99_b124 nin0)
  have F268 := F242.keep Kq249 (ninS ne_b99_b124 nin0)
  obtain ⟨cq269, kq269, q269a, q269b, q269c⟩ := isOf hZ e249 F255
  obtain ⟨_, _, ⟨T269, L269, k269, n269⟩, -, X269, ⟨Lc269, hQ269, l269, y269, z269⟩, st269⟩ := X249.virtualBack hx (y := (⟨"java/util/ArrayList", "add", "(Ljava/lang/Object;)Z"⟩ : MethodName)) (z := (⟨"java/util/ArrayList", "add", "(Ljava/lang/Object;)Z"⟩ : MethodName)) hown (mvT hZ (hw _ (gw 90 rfl))) (mvT hZ (hw _ (gw 91 rfl))) (notFace_of_selects (args := #[]) (mvT hZ (hw _ (gw 93 rfl)))) (mvT hZ (hw _ (gw 93 rfl))) (mvT hZ (hw _ (gw 92 rfl))) (by decide) (backOf (W := 0) (rm_adb l Z a0 hw [] b33 b124 (3 : Int32) ed ((((0 : Int32) + (1 : Int32)) + (1 : Int32)) + (1 : Int32)) (4 : Int32) (updV (updV (updV (fun _ => .null) 0 (.ref b49)) 1 (.ref b74)) 2 (.ref b99)) 3 h249 n0 Z249 F255 F256 F257 F258 F262 F250 g_b33 g_ed ne_b33_ed ne_b33_b124 ne_ed_b124 (by decide) (by decide) (by decide) (by decide) (by decide)) hZ (hw _ (gw 94 rfl)) (hw _ (gw 3 rfl)) (by decide) (by decide)) q269a q269c (g := (mkF m 137 #[.val (.int p0), .val (.int p1), .val (.int p2), .val (.int p3), .val (.int p4), .val (.int p5), .val (.int v6), .val (.int v12), .val (.int v18), .val (.int v24), .val (.int v31), .val (.ref b33), .unset, .unset, .unset, .unset, .unset] [(.ref b124), (.ref b33)])) rfl (by rw [hml]; rfl) (Steps.refl _) (argsL := [(.ref b124)]) (rest := []) (lenOf law4_pd2 rfl) rfl (by show 2 * 0 + _ ≤ _; exact Nat.le_of_eq rfl) (hb hby at_137) (fun _ _ => ⟨rfl, e249, (by decide : 14 + 0 ≤ _), (by decide : 65 + 0 ≤ _)⟩)
  dsimp only [Pt.U, Pt.locs, Pt.cells, Pt.slots] at X269 l269 y269 z269 st269 hQ269
  rw [l269, y269, z269] at X269
  obtain ⟨h269, e269⟩ : ∃ z, T269.heap = z := ⟨_, rfl⟩
  rw [e269] at hQ269
  obtain ⟨rfl, N269q, Kq269, F270, F271, F272, F273, F274⟩ := hQ269
  have N269 := Fr.app N249 N269q
  have Z269 : n0 ≤ h269.size := Nat.le_trans Z249 Kq269.1
  have Y269 : k226 ≤ h269.size := Nat.le_trans Y249 Kq269.1
  have F275 := F253.keep Kq269 (ninS ne_dce_b33 (ninS ne_dce_ed nin0))
  have F276 := own_keepS F254 Kq269 (allS (own_plE F255) (allS (own_plR F262) all0))
  have F277 := F259.keep Kq269
  have F278 := F260.keep Kq269 (ninS (Ne.symm ne_b33_b49) (ninS ne_b49_ed nin0))
  have F279 := F261.keep Kq269 (ninS (Ne.symm ne_b33_b49) (ninS ne_b49_ed nin0))
  have F280 := F263.keep Kq269
  have F281 := F264.keep Kq269 (ninS (Ne.symm ne_b33_b74) (ninS (Ne.symm ne_ed_b74) nin0))
  have F282 := F265.keep Kq269 (ninS (Ne.symm ne_b33_b74) (ninS (Ne.symm ne_ed_b74) nin0))
  have F283 := F266.keep Kq269
  have F284 := F267.keep Kq269 (ninS (Ne.symm ne_b33_b99) (ninS (Ne.symm ne_ed_b99) nin0))
  have F285 := F268.keep Kq269 (ninS (Ne.symm ne_b33_b99) (ninS (Ne.symm ne_ed_b99) nin0))
  have F286 := F250.keep Kq269
  have F287 := F251.keep Kq269 (ninS (Ne.symm ne_b33_b124) (ninS (Ne.symm ne_ed_b124) nin0))
  have F288 := F252.keep Kq269 (ninS (Ne.symm ne_b33_b124) (ninS (Ne.symm ne_ed_b124) nin0))
  obtain ⟨T289, h289, X289, e289, E289, A289, D289, -, st289⟩ := newO X269 hx hZ hown (hw _ (gw 27 rfl)) (hw _ (gw 28 rfl)) (hw _ (gw 29 rfl)) e269 (g := (mkF m 141 #[.val (.int p0), .val (.int p1), .val (.int p2), .val (.int p3), .val (.int p4), .val (.int p5), .val (.int v6), .val (.int v12), .val (.int v18), .val (.int v24), .val (.int v31), .val (.ref b33), .unset, .unset, .unset, .unset, .unset] [])) rfl (hb hby at_141) (by decide) (by decide)
  obtain ⟨b141, g289⟩ : ∃ z, z = h269.size := ⟨_, rfl⟩
  have g_b141 : n0 ≤ b141 := Nat.le_trans Z269 (Nat.le_of_eq g289.symm)
  have ne_dce_b141 : dce ≠ b141 := Nat.ne_of_lt (Nat.lt_of_lt_of_le F275.lt (Nat.le_of_eq g289.symm))
  have ne_b33_b141 : b33 ≠ b141 := Nat.ne_of_lt (Nat.lt_of_lt_of_le F270.lt (Nat.le_of_eq g289.symm))
  have ne_b49_b141 : b49 ≠ b141 := Nat.ne_of_lt (Nat.lt_of_lt_of_le F277.lt (Nat.le_of_eq g289.symm))
  have ne_ed_b141 : ed ≠ b141 := Nat.ne_of_lt (Nat.lt_of_lt_of_le F274.lt (Nat.le_of_eq g289.symm))
  have ne_b74_b141 : b74 ≠ b141 := Nat.ne_of_lt (Nat.lt_of_lt_of_le F280.lt (Nat.le_of_eq g289.symm))
  have ne_b99_b141 : b99 ≠ b141 := Nat.ne_of_lt (Nat.lt_of_lt_of_le F283.lt (Nat.le_of_eq g289.symm))
  have ne_b124_b141 : b124 ≠ b141 := Nat.ne_of_lt (Nat.lt_of_lt_of_le F286.lt (Nat.le_of_eq g289.symm))
  rw [← g289] at A289 D289 st289
  have Z289 : n0 ≤ h289.size := Nat.le_trans Z269 E289.1
  have Y289 : k226 ≤ h289.size := Nat.le_trans Y269 E289.1
  have F290 := F275.ext E289
  have F291 := Sta.ext E289 F276
  have F292 := Exa.ext E289 F270
  have F293 := Fld.ext E289 F271
  have F294 := Fld.ext E289 F272
  have F295 := Fld.ext E289 F273
  have F296 := Exa.ext E289 F277
  have F297 := Fld.ext E289 F278
  have F298 := Fld.ext E289 F279
  have F299 := F274.ext E289
  have F300 := Exa.ext E289 F280
  have F301 := Fld.ext E289 F281
  have F302 := Fld.ext E289 F282
  have F303 := Exa.ext E289 F283
  have F304 := Fld.ext E289 F284
  have F305 := Fld.ext E289 F285
  have F306 := Exa.ext E289 F286
  have F307 := Fld.ext E289 F287
  have F308 := Fld.ext E289 F288
  have F309 : Fld Z h289 b141 "com/example/termwright/termwright/DocumentNumbers" "bases" "[I" .null := D289 (Or.inr (hw _ (gw 47 rfl))) (ty := (.array .int)) (by decide)
  have F310 : Fld Z h289 b141 "com/example/termwright/termwright/DocumentNumbers" "count" "I" (.int (0 : Int32)) := D289 (Or.inr (hw _ (gw 49 rfl))) (ty := .int) (by decide)
  have F311 : Fld Z h289 b141 "com/example/termwright/termwright/DocumentNumbers" "deletedCount" "I" (.int (0 : Int32)) := D289 (Or.inr (hw _ (gw 51 rfl))) (ty := .int) (by decide)
  obtain ⟨_, _, ⟨T312, L312, k312, n312⟩, -, X312, ⟨Lc312, hQ312, l312, y312, z312⟩, st312⟩ := X289.specialBack hx (y := (⟨"com/example/termwright/termwright/DocumentNumbers", "<init>", "(Ljava/util/List;)V"⟩ : MethodName)) rfl hown (mvT hZ (hw _ (gw 30 rfl))) (mvT hZ (hw _ (gw 31 rfl))) (mvT hZ (hw _ (gw 32 rfl))) (by decide) (backOf (W := 1) (rm_dn4 l Z a0 hw [] b141 b33 _ _ _ ed b49 b74 b99 b124 (updV (updV (updV (updV (fun _ => .null) 0 (.ref b49)) 1 (.ref b74)) 2 (.ref b99)) 3 (.ref b124)) v12 v18 v24 v31 h289 n0 Z289 A289 F309 F310 F311 F292 F295 F294 F299 F296 F297 F298 F300 F301 F302 F303 F304 F305 F306 F307 F308 g_b141 (Ne.symm ne_b33_b141) (Ne.symm ne_ed_b141) (Ne.symm ne_b49_b141) (Ne.symm ne_b74_b141) (Ne.symm ne_b99_b141) (Ne.symm ne_b124_b141) (by simp [updV]) (by simp [updV]) (by simp [updV]) (by simp [updV]) (own_no0 hv12) (own_no1 hv12 hv18) (own_no2 hv12 hv18 hv24) (own_no3 hv12 hv18 hv24 hv31)) hZ (hw _ (gw 32 rfl)) (hw _ (gw 29 rfl)) (by decide) (by decide)) (g := (mkF m 147 #[.val (.int p0), .val (.int p1), .val (.int p2), .val (.int p3), .val (.int p4), .val (.int p5), .val (.int v6), .val (.int v12), .val (.int v18), .val (.int v24), .val (.int v31), .val (.ref b33), .unset, .unset, .unset, .unset, .unset] [(.ref b33), (.ref b141), (.ref b141)])) rfl (by rw [hml]; rfl) (Steps.refl _) (a := b141) (argsL := [(.ref b33)]) (rest := [(.ref b141)]) (lenOf law4_pd3 rfl) rfl (by show 2 * 0 + _ ≤ _; exact Nat.le_of_eq rfl) (hb hby at_147) (fun _ _ => ⟨rfl, e289, (by decide : 15 + 1 ≤ _), (by decide : 68 + 4 ≤ _)⟩)
  dsimp only [Pt.U, Pt.locs, Pt.cells, Pt.slots] at X312 l312 y312 z312 st312 hQ312
  rw [l312, y312, z312] at X312
  obtain ⟨h312, e312⟩ : ∃ z, T312.heap = z := ⟨_, rfl⟩
  rw [e312] at hQ312
  obtain ⟨bb, rfl, N312q, Kq312, gs_bb, F313, F314, F315⟩ := hQ312
  have N312 := Fr.app N269 N312q
  have g_bb : n0 ≤ bb := Nat.le_trans Z289 gs_bb
  have ne_dce_bb : dce ≠ bb := Nat.ne_of_lt (Nat.lt_of_lt_of_le F290.lt gs_bb)
  have ne_b33_bb : b33 ≠ bb := Nat.ne_of_lt (Nat.lt_of_lt_of_le F292.lt gs_bb)
  have ne_b49_bb : b49 ≠ bb := Nat.ne_of_lt (Nat.lt_of_lt_of_le F296.lt gs_bb)
  have ne_ed_bb : ed ≠ bb := Nat.ne_of_lt (Nat.lt_of_lt_of_le F299.lt gs_bb)
  have ne_b74_bb : b74 ≠ bb := Nat.ne_of_lt (Nat.lt_of_lt_of_le F300.lt gs_bb)
  have ne_b99_bb : b99 ≠ bb := Nat.ne_of_lt (Nat.lt_of_lt_of_le F303.lt gs_bb)
  have ne_b124_bb : b124 ≠ bb := Nat.ne_of_lt (Nat.lt_of_lt_of_le F306.lt gs_bb)
  have ne_b141_bb : b141 ≠ bb := Nat.ne_of_lt (Nat.lt_of_lt_of_le A289.lt gs_bb)
  have Z312 : n0 ≤ h312.size := Nat.le_trans Z289 Kq312.1
  have Y312 : k226 ≤ h312.size := Nat.le_trans Y289 Kq312.1
  have F316 := F290.keep Kq312 (ninS ne_dce_b141 nin0)
  have F317 := own_keepS F291 Kq312 (allS (own_plE A289) all0)
  have F318 := F292.keep Kq312
  have F319 := F293.keep Kq312 (ninS ne_b33_b141 nin0)
  have F320 := F294.keep Kq312 (ninS ne_b33_b141 nin0)
  have F321 := F295.keep Kq312 (ninS ne_b33_b141 nin0)
  have F322 := F296.keep Kq312
  have F323 := F297.keep Kq312 (ninS ne_b49_b141 nin0)
  have F324 := F298.keep Kq312 (ninS ne_b49_b141 nin0)
  have F325 := F299.keep Kq312 (ninS ne_ed_b141 nin0)
  have F326 := F300.keep Kq312
  have F327 := F301.keep Kq312 (ninS ne_b74_b141 nin0)
  have F328 := F302.keep Kq312 (ninS ne_b74_b141 nin0)
  have F329 := F303.keep Kq312
  have F330 := F304.keep Kq312 (ninS ne_b99_b141 nin0)
  have F331 := F305.keep Kq312 (ninS ne_b99_b141 nin0)
  have F332 := F306.keep Kq312
  have F333 := F307.keep Kq312 (ninS ne_b124_b141 nin0)
  have F334 := F308.keep Kq312 (ninS ne_b124_b141 nin0)
  have K335 : ∀ t, Steps p.tables e below (T312.setTop (mkF m 163 #[.val (.int p0), .val (.int p1), .val (.int p2), .val (.int p3), .val (.int p4), .val (.int p5), .val (.int v6), .val (.int v12), .val (.int v18), .val (.int v24), .val (.int v31), .val (.ref b33), .val (.ref b141), .val (.int v12), .val (.int (v12 + v18)), .unset, .unset] [])) t → P0 t := by
    intro t kt
    refine K10 t ?_
    show Steps p.tables e below (s₁.setTop (mkF m 33 #[.val (.int p0), .val (.int p1), .val (.int p2), .val (.int p3), .val (.int p4), .val (.int p5), .val (.int v6), .val (.int v12), .val (.int v18), .val (.int v24), .val (.int v31), .unset, .unset, .unset, .unset, .unset, .unset] [])) t
    refine st11 _ ?_
    show Steps p.tables e below (T11.setTop (mkF m 36 #[.val (.int p0), .val (.int p1), .val (.int p2), .val (.int p3), .val (.int p4), .val (.int p5), .val (.int v6), .val (.int v12), .val (.int v18), .val (.int v24), .val (.int v31), .unset, .unset, .unset, .unset, .unset, .unset] [(.ref b33)])) t
    refine XS.dup X11.here hx rfl (hb hby at_36) rfl rfl ?_
    show Steps p.tables e below (T11.setTop (mkF m 37 #[.val (.int p0), .val (.int p1), .val (.int p2), .val (.int p3), .val (.int p4), .val (.int p5), .val (.int v6), .val (.int v12), .val (.int v18), .val (.int v24), .val (.int v31), .unset, .unset, .unset, .unset, .unset, .unset] [(.ref b33), (.ref b33)])) t
    refine st17.trans ?_
    show Steps p.tables e below (T17.setTop (mkF m 40 #[.val (.int p0), .val (.int p1), .val (.int p2), .val (.int p3), .val (.int p4), .val (.int p5), .val (.int v6), .val (.int v12), .val (.int v18), .val (.int v24), .val (.int v31), .unset, .unset, .unset, .unset, .unset, .unset] [(.ref b33)])) t
    refine XS.astore X17.here hx rfl (hb hby at_40) rfl rfl (l' := #[.val (.int p0), .val (.int p1), .val (.int p2), .val (.int p3), .val (.int p4), .val (.int p5), .val (.int v6), .val (.int v12), .val (.int v18), .val (.int v24), .val (.int v31), .val (.ref b33), .unset, .unset, .unset, .unset, .unset]) rfl ?_
    refine XS.iload X17.here hx rfl (hb hby at_42) rfl ?_
    show Steps p.tables e below (T17.setTop (mkF m 44 #[.val (.int p0), .val (.int p1), .val (.int p2), .val (.int p3), .val (.int p4), .val (.int p5), .val (.int v6), .val (.int v12), .val (.int v18), .val (.int v24), .val (.int v31), .val (.ref b33), .unset, .unset, .unset, .unset, .unset] [(.int v6)])) t
    refine XS.ifNo X17.here hx rfl (hb hby at_44) rfl ((if0 _ _).trans (tlt (by rw [hv6, hn]; decide)).2.2.2) ?_
    refine XS.aload X17.here hx rfl (hb hby at_47) rfl rfl ?_
    show Steps p.tables e below (T17.setTop (mkF m 49 #[.val (.int p0), .val (.int p1), .val (.int p2), .val (.int p3), .val (.int p4), .val (.int p5), .val (.int v6), .val (.int v12), .val (.int v18), .val (.int v24), .val (.int v31), .val (.ref b33), .unset, .unset, .unset, .unset, .unset] [(.ref b33)])) t
    refine st24 _ ?_
    show Steps p.tables e below (T24.setTop (mkF m 52 #[.val (.int p0), .val (.int p1), .val (.int p2), .val (.int p3), .val (.int p4), .val (.int p5), .val (.int v6), .val (.int v12), .val (.int v18), .val (.int v24), .val (.int v31), .val (.ref b33), .unset, .unset, .unset, .unset, .unset] [(.ref b49), (.ref b33)])) t
    refine XS.dup X24.here hx rfl (hb hby at_52) rfl rfl ?_
    show Steps p.tables e below (T24.setTop (mkF m 53 #[.val (.int p0), .val (.int p1), .val (.int p2), .val (.int p3), .val (.int p4), .val (.int p5), .val (.int v6), .val (.int v12), .val (.int v18), .val (.int v24), .val (.int v31), .val (.ref b33), .unset, .unset, .unset, .unset, .unset] [(.ref b49), (.ref b49), (.ref b33)])) t
    refine st36 _ ?_
    refine XS.iload X36.here hx rfl (hb hby at_55) rfl ?_
    refine XS.lconst X36.here hx rfl (hb hby at_57) ?_
    refine XS.iconst X36.here hx rfl (hb hby at_58) ?_
    show Steps p.tables e below (T36.setTop (mkF m 59 #[.val (.int p0), .val (.int p1), .val (.int p2), .val (.int p3), .val (.int p4), .val (.int p5), .val (.int v6), .val (.int v12), .val (.int v18), .val (.int v24), .val (.int v31), .val (.ref b33), .unset, .unset, .unset, .unset, .unset] [(.int (0 : Int32)), (.long (0 : Int64)), (.int v12), (.ref lit53), (.ref b49), (.ref b49), (.ref b33)])) t
    refine st49.trans ?_
    show Steps p.tables e below (T49.setTop (mkF m 62 #[.val (.int p0), .val (.int p1), .val (.int p2), .val (.int p3), .val (.int p4), .val (.int p5), .val (.int v6), .val (.int v12), .val (.int v18), .val (.int v24), .val (.int v31), .val (.ref b33), .unset, .unset, .unset, .unset, .unset] [(.ref b49), (.ref b33)])) t
    refine st59.trans ?_
    show Steps p.tables e below (T59.setTop (mkF m 65 #[.val (.int p0), .val (.int p1), .val (.int p2), .val (.int p3), .val (.int p4), .val (.int p5), .val (.int v6), .val (.int v12), .val (.int v18), .val (.int v24), .val (.int v31), .val (.ref b33), .unset, .unset, .unset, .unset, .unset] [(.int (nar .boolean (1 : Int32)))])) t
    refine XS.pop X59.here hx rfl (hb hby at_65) rfl rfl ?_
    refine XS.iload X59.here hx rfl (hb hby at_66) rfl ?_
    refine XS.iconst X59.here hx rfl (hb hby at_68) ?_
    show Steps p.tables e below (T59.setTop (mkF m 69 #[.val (.int p0), .val (.int p1), .val (.int p2), .val (.int p3), .val (.int p4), .val (.int p5), .val (.int v6), .val (.int v12), .val (.int v18), .val (.int v24), .val (.int v31), .val (.ref b33), .unset, .unset, .unset, .unset, .unset] [(.int (1 : Int32)), (.int v6)])) t
    refine XS.icmpNo X59.here hx rfl (hb hby at_69) rfl (tlt (by rw [hv6, hn]; decide)).2.2.2 ?_
    refine XS.aload X59.here hx rfl (hb hby at_72) rfl rfl ?_
    show Steps p.tables e below (T59.setTop (mkF m 74 #[.val (.int p0), .val (.int p1), .val (.int p2), .val (.int p3), .val (.int p4), .val (.int p5), .val (.int v6), .val (.int v12), .val (.int v18), .val (.int v24), .val (.int v31), .val (.ref b33), .unset, .unset, .unset, .unset, .unset] [(.ref b33)])) t
    refine st70 _ ?_
    show Steps p.tables e below (T70.setTop (mkF m 77 #[.val (.int p0), .val (.int p1), .val (.int p2), .val (.int p3), .val (.int p4), .val (.int p5), .val (.int v6), .val (.int v12), .val (.int v18), .val (.int v24), .val (.int v31), .val (.ref b33), .unset, .unset, .unset, .unset, .unset] [(.ref b74), (.ref b33)])) t
    refine XS.dup X70.here hx rfl (hb hby at_77) rfl rfl ?_
    show Steps p.tables e below (T70.setTop (mkF m 78 #[.val (.int p0), .val (.int p1), .val (.int p2), .val (.int p3), .val (.int p4), .val (.int p5), .val (.int v6), .val (.int v12), .val (.int v18), .val (.int v24), .val (.int v31), .val (.ref b33), .unset, .unset, .unset, .unset, .unset] [(.ref b74), (.ref b74), (.ref b33)])) t
    refine st86 _ ?_
    refine XS.iload X86.here hx rfl (hb hby at_80) rfl ?_
    refine XS.lconst X86.here hx rfl (hb hby at_82) ?_
    refine XS.iconst X86.here hx rfl (hb hby at_83) ?_
    show Steps p.tables e below (T86.setTop (mkF m 84 #[.val (.int p0), .val (.int p1), .val (.int p2), .val (.int p3), .val (.int p4), .val (.int p5), .val (.int v6), .val (.int v12), .val (.int v18), .val (.int v24), .val (.int v31), .val (.ref b33), .unset, .unset, .unset, .unset, .unset] [(.int (0 : Int32)), (.long (0 : Int64)), (.int v18), (.ref lit78), (.ref b74), (.ref b74), (.ref b33)])) t
    refine st103.trans ?_
    show Steps p.tables e below (T103.setTop (mkF m 87 #[.val (.int p0), .val (.int p1), .val (.int p2), .val (.int p3), .val (.int p4), .val (.int p5), .val (.int v6), .val (.int v12), .val (.int v18), .val (.int v24), .val (.int v31), .val (.ref b33), .unset, .unset, .unset, .unset, .unset] [(.ref b74), (.ref b33)])) t
    refine st117.trans ?_
    show Steps p.tables e below (T117.setTop (mkF m 90 #[.val (.int p0), .val (.int p1), .val (.int p2), .val (.int p3), .val (.int p4), .val (.int p5), .val (.int v6), .val (.int v12), .val (.int v18), .val (.int v24), .val (.int v31), .val (.ref b33), .unset, .unset, .unset, .unset, .unset] [(.int (nar .boolean (1 : Int32)))])) t
    refine XS.pop X117.here hx rfl (hb hby at_90) rfl rfl ?_
    refine XS.iload X117.here hx rfl (hb hby at_91) rfl ?_
    refine XS.iconst X117.here hx rfl (hb hby at_93) ?_
    show Steps p.tables e below (T117.setTop (mkF m 94 #[.val (.int p0), .val (.int p1), .val (.int p2), .val (.int p3), .val (.int p4), .val (.int p5), .val (.int v6), .val (.int v12), .val (.int v18), .val (.int v24), .val (.int v31), .val (.ref b33), .unset, .unset, .unset, .unset, .unset] [(.int (2 : Int32)), (.int v6)])) t
    refine XS.icmpNo X117.here hx rfl (hb hby at_94) rfl (tlt (by rw [hv6, hn]; decide)).2.2.2 ?_
    refine XS.aload X117.here hx rfl (hb hby at_97) rfl rfl ?_
    show Steps p.tables e below (T117.setTop (mkF m 99 #[.val (.int p0), .val (.int p1), .val (.int p2), .val (.int p3), .val (.int p4), .val (.int p5), .val (.int v6), .val (.int v12), .val (.int v18), .val (.int v24), .val (.int v31), .val (.ref b33), .unset, .unset, .unset, .unset, .unset] [(.ref b33)])) t
    refine st131 _ ?_
    show Steps p.tables e below (T131.setTop (mkF m 102 #[.val (.int p0), .val (.int p1), .val (.int p2), .val (.int p3), .val (.int p4), .val (.int p5), .val (.int v6), .val (.int v12), .val (.int v18), .val (.int v24), .val (.int v31), .val (.ref b33), .unset, .unset, .unset, .unset, .unset] [(.ref b99), (.ref b33)])) t
    refine XS.dup X131.here hx rfl (hb hby at_102) rfl rfl ?_
    show Steps p.tables e below (T131.setTop (mkF m 103 #[.val (.int p0), .val (.int p1), .val (.int p2), .val (.int p3), .val (.int p4), .val (.int p5), .val (.int v6), .val (.int v12), .val (.int v18), .val (.int v24), .val (.int v31), .val (.ref b33), .unset, .unset, .unset, .unset, .unset] [(.ref b99), (.ref b99), (.ref b33)])) t
    refine st150 _ ?_
    refine XS.iload X150.here hx rfl (hb hby at_105) rfl ?_
    refine XS.lconst X150.here hx rfl (hb hby at_107) ?_
    refine XS.iconst X150.here hx rfl (hb hby at_108) ?_
    show Steps p.tables e below (T150.setTop (mkF m 109 #[.val (.int p0), .val (.int p1), .val (.int p2), .val (.int p3), .val (.int p4), .val (.int p5), .val (.int v6), .val (.int v12), .val (.int v18), .val (.int v24), .val (.int v31), .val (.ref b33), .unset, .unset, .unset, .unset, .unset] [(.int (0 : Int32)), (.long (0 : Int64)), (.int v24), (.ref lit103), (.ref b99), (.ref b99), (.ref b33)])) t
    refine st170.trans ?_
    show Steps p.tables e below (T170.setTop (mkF m 112 #[.val (.int p0), .val (.int p1), .val (.int p2), .val (.int p3), .val (.int p4), .val (.int p5), .val (.int v6), .val (.int v12), .val (.int v18), .val (.int v24), .val (.int v31), .val (.ref b33), .unset, .unset, .unset, .unset, .unset] [(.ref b99), (.ref b33)])) t
    refine st187.trans ?_
    show Steps p.tables e below (T187.setTop (mkF m 115 #[.val (.int p0), .val (.int p1), .val (.int p2), .val (.int p3), .val (.int p4), .val (.int p5), .val (.int v6), .val (.int v12), .val (.int v18), .val (.int v24), .val (.int v31), .val (.ref b33), .unset, .unset, .unset, .unset, .unset] [(.int (nar .boolean (1 : Int32)))])) t
    refine XS.pop X187.here hx rfl (hb hby at_115) rfl rfl ?_
    refine XS.iload X187.here hx rfl (hb hby at_116) rfl ?_
    refine XS.iconst X187.here hx rfl (hb hby at_118) ?_
    show Steps p.tables e below (T187.setTop (mkF m 119 #[.val (.int p0), .val (.int p1), .val (.int p2), .val (.int p3), .val (.int p4), .val (.int p5), .val (.int v6), .val (.int v12), .val (.int v18), .val (.int v24), .val (.int v31), .val (.ref b33), .unset, .unset, .unset, .unset, .unset] [(.int (3 : Int32)), (.int v6)])) t
    refine XS.icmpNo X187.here hx rfl (hb hby at_119) rfl (tlt (by rw [hv6, hn]; decide)).2.2.2 ?_
    refine XS.aload X187.here hx rfl (hb hby at_122) rfl rfl ?_
    show Steps p.tables e below (T187.setTop (mkF m 124 #[.val (.int p0), .val (.int p1), .val (.int p2), .val (.int p3), .val (.int p4), .val (.int p5), .val (.int v6), .val (.int v12), .val (.int v18), .val (.int v24), .val (.int v31), .val (.ref b33), .unset, .unset, .unset, .unset, .unset] [(.ref b33)])) t
    refine st204 _ ?_
    show Steps p.tables e below (T204.setTop (mkF m 127 #[.val (.int p0), .val (.int p1), .val (.int p2), .val (.int p3), .val (.int p4), .val (.int p5), .val (.int v6), .val (.int v12), .val (.int v18), .val (.int v24), .val (.int v31), .val (.ref b33), .unset, .unset, .unset, .unset, .unset] [(.ref b124), (.ref b33)])) t
    refine XS.dup X204.here hx rfl (hb hby at_127) rfl rfl ?_
    show Steps p.tables e below (T204.setTop (mkF m 128 #[.val (.int p0), .val (.int p1), .val (.int p2), .val (.int p3), .val (.int p4), .val (.int p5), .val (.int v6), .val (.int v12), .val (.int v18), .val (.int v24), .val (.int v31), .val (.ref b33), .unset, .unset, .unset, .unset, .unset] [(.ref b124), (.ref b124), (.ref b33)])) t
    refine st226 _ ?_
    refine XS.iload X226.here hx rfl (hb hby at_130) rfl ?_
    refine XS.lconst X226.here hx rfl (hb hby at_132) ?_
    refine XS.iconst X226.here hx rfl (hb hby at_133) ?_
    show Steps p.tables e below (T226.setTop (mkF m 134 #[.val (.int p0), .val (.int p1), .val (.int p2), .val (.int p3), .val (.int p4), .val (.int p5), .val (.int v6), .val (.int v12), .val (.int v18), .val (.int v24), .val (.int v31), .val (.ref b33), .unset, .unset, .unset, .unset, .unset] [(.int (0 : Int32)), (.long (0 : Int64)), (.int v31), (.ref lit128), (.ref b124), (.ref b124), (.ref b33)])) t
    refine st249.trans ?_
    show Steps p.tables e below (T249.setTop (mkF m 137 #[.val (.int p0), .val (.int p1), .val (.int p2), .val (.int p3), .val (.int p4), .val (.int p5), .val (.int v6), .val (.int v12), .val (.int v18), .val (.int v24), .val (.int v31), .val (.ref b33), .unset, .unset, .unset, .unset, .unset] [(.ref b124), (.ref b33)])) t
    refine st269.trans ?_
    show Steps p.tables e below (T269.setTop (mkF m 140 #[.val (.int p0), .val (.int p1), .val (.int p2), .val (.int p3), .val (.int p4), .val (.int p5), .val (.int v6), .val (.int v12), .val (.int v18), .val (.int v24), .val (.int v31), .val (.ref b33), .unset, .unset, .unset, .unset, .unset] [(.int (nar .boolean (1 : Int32)))])) t
    refine XS.pop X269.here hx rfl (hb hby at_140) rfl rfl ?_
    show Steps p.tables e below (T269.setTop (mkF m 141 #[.val (.int p0), .val (.int p1), .val (.int p2), .val (.int p3), .val (.int p4), .val (.int p5), .val (.int v6), .val (.int v12), .val (.int v18), .val (.int v24), .val (.int v31), .val (.ref b33), .unset, .unset, .unset, .unset, .unset] [])) t
    refine st289 _ ?_
    show Steps p.tables e below (T289.setTop (mkF m 144 #[.val (.int p0), .val (.int p1), .val (.int p2), .val (.int p3), .val (.int p4), .val (.int p5), .val (.int v6), .val (.int v12), .val (.int v18), .val (.int v24), .val (.int v31), .val (.ref b33), .unset, .unset, .unset, .unset, .unset] [(.ref b141)])) t
    refine XS.dup X289.here hx rfl (hb hby at_144) rfl rfl ?_
    refine XS.aload X289.here hx rfl (hb hby at_145) rfl rfl ?_
    show Steps p.tables e below (T289.setTop (mkF m 147 #[.val (.int p0), .val (.int p1), .val (.int p2), .val (.int p3), .val (.int p4), .val (.int p5), .val (.int v6), .val (.int v12), .val (.int v18), .val (.int v24), .val (.int v31), .val (.ref b33), .unset, .unset, .unset, .unset, .unset] [(.ref b33), (.ref b141), (.ref b141)])) t
    refine st312.trans ?_
    show Steps p.tables e below (T312.setTop (mkF m 150 #[.val (.int p0), .val (.int p1), .val (.int p2), .val (.int p3), .val (.int p4), .val (.int p5), .val (.int v6), .val (.int v12), .val (.int v18), .val (.int v24), .val (.int v31), .val (.ref b33), .unset, .unset, .unset, .unset, .unset] [(.ref b141)])) t
    refine XS.astore X312.here hx rfl (hb hby at_150) rfl rfl (l' := #[.val (.int p0), .val (.int p1), .val (.int p2), .val (.int p3), .val (.int p4), .val (.int p5), .val (.int v6), .val (.int v12), .val (.int v18), .val (.int v24), .val (.int v31), .val (.ref b33), .val (.ref b141), .unset, .unset, .unset, .unset]) rfl ?_
    refine XS.iload X312.here hx rfl (hb hby at_152) rfl ?_
    show Steps p.tables e below (T312.setTop (mkF m 154 #[.val (.int p0), .val (.int p1), .val (.int p2), .val (.int p3), .val (.int p4), .val (.int p5), .val (.int v6), .val (.int v12), .val (.int v18), .val (.int v24), .val (.int v31), .val (.ref b33), .val (.ref b141), .unset, .unset, .unset, .unset] [(.int v12)])) t
    refine XS.istore X312.here hx rfl (hb hby at_154) rfl (l' := #[.val (.int p0), .val (.int p1), .val (.int p2), .val (.int p3), .val (.int p4), .val (.int p5), .val (.int v6), .val (.int v12), .val (.int v18), .val (.int v24), .val (.int v31), .val (.ref b33), .val (.ref b141), .val (.int v12), .unset, .unset, .unset]) rfl ?_
    refine XS.iload X312.here hx rfl (hb hby at_156) rfl ?_
    refine XS.iload X312.here hx rfl (hb hby at_158) rfl ?_
    show Steps p.tables e below (T312.setTop (mkF m 160 #[.val (.int p0), .val (.int p1), .val (.int p2), .val (.int p3), .val (.int p4), .val (.int p5), .val (.int v6), .val (.int v12), .val (.int v18), .val (.int v24), .val (.int v31), .val (.ref b33), .val (.ref b141), .val (.int v12), .unset, .unset, .unset] [(.int v18), (.int v12)])) t
    refine XS.iadd X312.here hx rfl (hb hby at_160) rfl ?_
    show Steps p.tables e below (T312.setTop (mkF m 161 #[.val (.int p0), .val (.int p1), .val (.int p2), .val (.int p3), .val (.int p4), .val (.int p5), .val (.int v6), .val (.int v12), .val (.int v18), .val (.int v24), .val (.int v31), .val (.ref b33), .val (.ref b141), .val (.int v12), .unset, .unset, .unset] [(.int (v12 + v18))])) t
    refine XS.istore X312.here hx rfl (hb hby at_161) rfl (l' := #[.val (.int p0), .val (.int p1), .val (.int p2), .val (.int p3), .val (.int p4), .val (.int p5), .val (.int v6), .val (.int v12), .val (.int v18), .val (.int v24), .val (.int v31), .val (.ref b33), .val (.ref b141), .val (.int v12), .val (.int (v12 + v18)), .unset, .unset]) rfl ?_
    exact kt
  obtain ⟨v161, hv161, K336⟩ : ∃ v161 : Int32, v161 = (v12 + v18) ∧ ∀ t, Steps p.tables e below (T312.setTop (mkF m 163 #[.val (.int p0), .val (.int p1), .val (.int p2), .val (.int p3), .val (.int p4), .val (.int p5), .val (.int v6), .val (.int v12), .val (.int v18), .val (.int v24), .val (.int v31), .val (.ref b33), .val (.ref b141), .val (.int v12), .val (.int v161), .unset, .unset] [])) t → P0 t := ⟨_, rfl, K335⟩
  have K337 : ∀ t, Steps p.tables e below (T312.setTop (mkF m 170 #[.val (.int p0), .val (.int p1), .val (.int p2), .val (.int p3), .val (.int p4), .val (.int p5), .val (.int v6), .val (.int v12), .val (.int v18), .val (.int v24), .val (.int v31), .val (.ref b33), .val (.ref b141), .val (.int v12), .val (.int v161), .val (.int (v161 + v24)), .unset] [])) t → P0 t := by
    intro t kt
    refine K336 t ?_
    refine XS.iload X312.here hx rfl (hb hby at_163) rfl ?_
    refine XS.iload X312.here hx rfl (hb hby at_165) rfl ?_
    show Steps p.tables e below (T312.setTop (mkF m 167 #[.val (.int p0), .val (.int p1), .val (.int p2), .val (.int p3), .val (.int p4), .val (.int p5), .val (.int v6), .val (.int v12), .val (.int v18), .val (.int v24), .val (.int v31), .val (.ref b33), .val (.ref b141), .val (.int v12), .val (.int v161), .unset, .unset] [(.int v24), (.int v161)])) t
    refine XS.iadd X312.here hx rfl (hb hby at_167) rfl ?_
    show Steps p.tables e below (T312.setTop (mkF m 168 #[.val (.int p0), .val (.int p1), .val (.int p2), .val (.int p3), .val (.int p4), .val (.int p5), .val (.int v6), .val (.int v12), .val (.int v18), .val (.int v24), .val (.int v31), .val (.ref b33), .val (.ref b141), .val (.int v12), .val (.int v161), .unset, .unset] [(.int (v161 + v24))])) t
    refine XS.istore X312.here hx rfl (hb hby at_168) rfl (l' := #[.val (.int p0), .val (.int p1), .val (.int p2), .val (.int p3), .val (.int p4), .val (.int p5), .val (.int v6), .val (.int v12), .val (.int v18), .val (.int v24), .val (.int v31), .val (.ref b33), .val (.ref b141), .val (.int v12), .val (.int v161), .val (.int (v161 + v24)), .unset]) rfl ?_
    exact kt
  obtain ⟨v168, hv168, K338⟩ : ∃ v168 : Int32, v168 = (v161 + v24) ∧ ∀ t, Steps p.tables e below (T312.setTop (mkF m 170 #[.val (.int p0), .val (.int p1), .val (.int p2), .val (.int p3), .val (.int p4), .val (.int p5), .val (.int v6), .val (.int v12), .val (.int v18), .val (.int v24), .val (.int v31), .val (.ref b33), .val (.ref b141), .val (.int v12), .val (.int v161), .val (.int v168), .unset] [])) t → P0 t := ⟨_, rfl, K337⟩
  have K339 : ∀ t, Steps p.tables e below (T312.setTop (mkF m 183 #[.val (.int p0), .val (.int p1), .val (.int p2), .val (.int p3), .val (.int p4), .val (.int p5), .val (.int v6), .val (.int v12), .val (.int v18), .val (.int v24), .val (.int v31), .val (.ref b33), .val (.ref b141), .val (.int v12), .val (.int v161), .val (.int v168), .val (.int (0 : Int32))] [(.int p5), (.int v12)])) t → P0 t := by
    intro t kt
    refine K338 t ?_
    refine XS.iconst X312.here hx rfl (hb hby at_170) ?_
    show Steps p.tables e below (T312.setTop (mkF m 171 #[.val (.int p0), .val (.int p1), .val (.int p2), .val (.int p3), .val (.int p4), .val (.int p5), .val (.int v6), .val (.int v12), .val (.int v18), .val (.int v24), .val (.int v31), .val (.ref b33), .val (.ref b141), .val (.int v12), .val (.int v161), .val (.int v168), .unset] [(.int (0 : Int32))])) t
    refine XS.istore X312.here hx rfl (hb hby at_171) rfl (l' := #[.val (.int p0), .val (.int p1), .val (.int p2), .val (.int p3), .val (.int p4), .val (.int p5), .val (.int v6), .val (.int v12), .val (.int v18), .val (.int v24), .val (.int v31), .val (.ref b33), .val (.ref b141), .val (.int v12), .val (.int v161), .val (.int v168), .val (.int (0 : Int32))]) rfl ?_
    refine XS.iload X312.here hx rfl (hb hby at_173) rfl ?_
    refine XS.iconst X312.here hx rfl (hb hby at_175) ?_
    show Steps p.tables e below (T312.setTop (mkF m 176 #[.val (.int p0), .val (.int p1), .val (.int p2), .val (.int p3), .val (.int p4), .val (.int p5), .val (.int v6), .val (.int v12), .val (.int v18), .val (.int v24), .val (.int v31), .val (.ref b33), .val (.ref b141), .val (.int v12), .val (.int v161), .val (.int v168), .val (.int (0 : Int32))] [(.int (1 : Int32)), (.int v6)])) t
    refine XS.icmpNo X312.here hx rfl (hb hby at_176) rfl (tlt (by rw [hv6, hn]; decide)).2.2.2 ?_
    refine XS.iload X312.here hx rfl (hb hby at_179) rfl ?_
    refine XS.iload X312.here hx rfl (hb hby at_181) rfl ?_
    exact kt
  obtain ⟨j189_16, hj189_16, K342⟩ : ∃ (j189_16 : Int32), j189_16 = (if p5 < v12 then (0 : Int32) else (1 : Int32)) ∧ ∀ t, Steps p.tables e below (T312.setTop (mkF m 189 #[.val (.int p0), .val (.int p1), .val (.int p2), .val (.int p3), .val (.int p4), .val (.int p5), .val (.int v6), .val (.int v12), .val (.int v18), .val (.int v24), .val (.int v31), .val (.ref b33), .val (.ref b141), .val (.int v12), .val (.int v161), .val (.int v168), .val (.int j189_16)] [])) t → P0 t := by
    by_cases hc183 : p5 < v12
    · have K340 : ∀ t, Steps p.tables e below (T312.setTop (mkF m 189 #[.val (.int p0), .val (.int p1), .val (.int p2), .val (.int p3), .val (.int p4), .val (.int p5), .val (.int v6), .val (.int v12), .val (.int v18), .val (.int v24), .val (.int v31), .val (.ref b33), .val (.ref b141), .val (.int v12), .val (.int v161), .val (.int v168), .val (.int (0 : Int32))] [])) t → P0 t := by
        intro t kt
        refine K339 t ?_
        refine XS.icmpYes X312.here hx rfl (pc0 := 183) (pc' := 189) rfl (hb hby at_183) rfl (tlt hc183).2.2.1 (by decide) (by decide) ?_
        exact kt
      exact ⟨_, (if_pos hc183).symm, K340⟩
    · have K341 : ∀ t, Steps p.tables e below (T312.setTop (mkF m 189 #[.val (.int p0), .val (.int p1), .val (.int p2), .val (.int p3), .val (.int p4), .val (.int p5), .val (.int v6), .val (.int v12), .val (.int v18), .val (.int v24), .val (.int v31), .val (.ref b33), .val (.ref b141), .val (.int v12), .val (.int v161), .val (.int v168), .val (.int (1 : Int32))] [])) t → P0 t := by
        intro t kt
        refine K339 t ?_
        refine XS.icmpNo X312.here hx rfl (hb hby at_183) rfl (flt hc183).2.2.1 ?_
        refine XS.iconst X312.here hx rfl (hb hby at_186) ?_
        show Steps p.tables e below (T312.setTop (mkF m 187 #[.val (.int p0), .val (.int p1), .val (.int p2), .val (.int p3), .val (.int p4), .val (.int p5), .val (.int v6), .val (.int v12), .val (.int v18), .val (.int v24), .val (.int v31), .val (.ref b33), .val (.ref b141), .val (.int v12), .val (.int v161), .val (.int v168), .val (.int (0 : Int32))] [(.int (1 : Int32))])) t
        refine XS.istore X312.here hx rfl (hb hby at_187) rfl (l' := #[.val (.int p0), .val (.int p1), .val (.int p2), .val (.int p3), .val (.int p4), .val (.int p5), .val (.int v6), .val (.int v12), .val (.int v18), .val (.int v24), .val (.int v31), .val (.ref b33), .val (.ref b141), .val (.int v12), .val (.int v161), .val (.int v168), .val (.int (1 : Int32))]) rfl ?_
        exact kt
      exact ⟨_, (if_neg hc183).symm, K341⟩
  have K343 : ∀ t, Steps p.tables e below (T312.setTop (mkF m 199 #[.val (.int p0), .val (.int p1), .val (.int p2), .val (.int p3), .val (.int p4), .val (.int p5), .val (.int v6), .val (.int v12), .val (.int v18), .val (.int v24), .val (.int v31), .val (.ref b33), .val (.ref b141), .val (.int v12), .val (.int v161), .val (.int v168), .val (.int j189_16)] [(.int p5), (.int v161)])) t → P0 t := by
    intro t kt
    refine K342 t ?_
    refine XS.iload X312.here hx rfl (hb hby at_189) rfl ?_
    refine XS.iconst X312.here hx rfl (hb hby at_191) ?_
    show Steps p.tables e below (T312.setTop (mkF m 192 #[.val (.int p0), .val (.int p1), .val (.int p2), .val (.int p3), .val (.int p4), .val (.int p5), .val (.int v6), .val (.int v12), .val (.int v18), .val (.int v24), .val (.int v31), .val (.ref b33), .val (.ref b141), .val (.int v12), .val (.int v161), .val (.int v168), .val (.int j189_16)] [(.int (2 : Int32)), (.int v6)])) t
    refine XS.icmpNo X312.here hx rfl (hb hby at_192) rfl (tlt (by rw [hv6, hn]; decide)).2.2.2 ?_
    refine XS.iload X312.here hx rfl (hb hby at_195) rfl ?_
    refine XS.iload X312.here hx rfl (hb hby at_197) rfl ?_
    exact kt
  obtain ⟨j205_16, hj205_16, K346⟩ : ∃ (j205_16 : Int32), j205_16 = (if p5 < v161 then j189_16 else (2 : Int32)) ∧ ∀ t, Steps p.tables e below (T312.setTop (mkF m 205 #[.val (.int p0), .val (.int p1), .val (.int p2), .val (.int p3), .val (.int p4), .val (.int p5), .val (.int v6), .val (.int v12), .val (.int v18), .val (.int v24), .val (.int v31), .val (.ref b33), .val (.ref b141), .val (.int v12), .val (.int v161), .val (.int v168), .val (.int j205_16)] [])) t → P0 t := by
    by_cases hc199 : p5 < v161
    · have K344 : ∀ t, Steps p.tables e below (T312.setTop (mkF m 205 #[.val (.int p0), .val (.int p1), .val (.int p2), .val (.int p3), .val (.int p4), .val (.int p5), .val (.int v6), .val (.int v12), .val (.int v18), .val (.int v24), .val (.int v31), .val (.ref b33), .val (.ref b141), .val (.int v12), .val (.int v161), .val (.int v168), .val (.int j189_16)] [])) t → P0 t := by
        intro t kt
        refine K343 t ?_
        refine XS.icmpYes X312.here hx rfl (pc0 := 199) (pc' := 205) rfl (hb hby at_199) rfl (tlt hc199).2.2.1 (by decide) (by decide) ?_
        exact kt
      exact ⟨_, (if_pos hc199).symm, K344⟩
    · have K345 : ∀ t, Steps p.tables e below (T312.setTop (mkF m 205 #[.val (.int p0), .val (.int p1), .val (.int p2), .val (.int p3), .val (.int p4), .val (.int p5), .val (.int v6), .val (.int v12), .val (.int v18), .val (.int v24), .val (.int v31), .val (.ref b33), .val (.ref b141), .val (.int v12), .val (.int v161), .val (.int v168), .val (.int (2 : Int32))] [])) t → P0 t := by
        intro t kt
        refine K343 t ?_
        refine XS.icmpNo X312.here hx rfl (hb hby at_199) rfl (flt hc199).2.2.1 ?_
        refine XS.iconst X312.here hx rfl (hb hby at_202) ?_
        show Steps p.tables e below (T312.setTop (mkF m 203 #[.val (.int p0), .val (.int p1), .val (.int p2), .val (.int p3), .val (.int p4), .val (.int p5), .val (.int v6), .val (.int v12), .val (.int v18), .val (.int v24), .val (.int v31), .val (.ref b33), .val (.ref b141), .val (.int v12), .val (.int v161), .val (.int v168), .val (.int j189_16)] [(.int (2 : Int32))])) t
        refine XS.istore X312.here hx rfl (hb hby at_203) rfl (l' := #[.val (.int p0), .val (.int p1), .val (.int p2), .val (.int p3), .val (.int p4), .val (.int p5), .val (.int v6), .val (.int v12), .val (.int v18), .val (.int v24), .val (.int v31), .val (.ref b33), .val (.ref b141), .val (.int v12), .val (.int v161), .val (.int v168), .val (.int (2 : Int32))]) rfl ?_
        exact kt
      exact ⟨_, (if_neg hc199).symm, K345⟩
  have K347 : ∀ t, Steps p.tables e below (T312.setTop (mkF m 215 #[.val (.int p0), .val (.int p1), .val (.int p2), .val (.int p3), .val (.int p4), .val (.int p5), .val (.int v6), .val (.int v12), .val (.int v18), .val (.int v24), .val (.int v31), .val (.ref b33), .val (.ref b141), .val (.int v12), .val (.int v161), .val (.int v168), .val (.int j205_16)] [(.int p5), (.int v168)])) t → P0 t := by
    intro t kt
    refine K346 t ?_
    refine XS.iload X312.here hx rfl (hb hby at_205) rfl ?_
    refine XS.iconst X312.here hx rfl (hb hby at_207) ?_
    show Steps p.tables e below (T312.setTop (mkF m 208 #[.val (.int p0), .val (.int p1), .val (.int p2), .val (.int p3), .val (.int p4), .val (.int p5), .val (.int v6), .val (.int v12), .val (.int v18), .val (.int v24), .val (.int v31), .val (.ref b33), .val (.ref b141), .val (.int v12), .val (.int v161), .val (.int v168), .val (.int j205_16)] [(.int (3 : Int32)), (.int v6)])) t
    refine XS.icmpNo X312.here hx rfl (hb hby at_208) rfl (tlt (by rw [hv6, hn]; decide)).2.2.2 ?_
    refine XS.iload X312.here hx rfl (hb hby at_211) rfl ?_
    refine XS.iload X312.here hx rfl (hb hby at_213) rfl ?_
    exact kt
  obtain ⟨j221_16, hj221_16, K350⟩ : ∃ (j221_16 : Int32), j221_16 = (if p5 < v168 then j205_16 else (3 : Int32)) ∧ ∀ t, Steps p.tables e below (T312.setTop (mkF m 221 #[.val (.int p0), .val (.int p1), .val (.int p2), .val (.int p3), .val (.int p4), .val (.int p5), .val (.int v6), .val (.int v12), .val (.int v18), .val (.int v24), .val (.int v31), .val (.ref b33), .val (.ref b141), .val (.int v12), .val (.int v161), .val (.int v168), .val (.int j221_16)] [])) t → P0 t := by
    by_cases hc215 : p5 < v168
    · have K348 : ∀ t, Steps p.tables e below (T312.setTop (mkF m 221 #[.val (.int p0), .val (.int p1), .val (.int p2), .val (.int p3), .val (.int p4), .val (.int p5), .val (.int v6), .val (.int v12), .val (.int v18), .val (.int v24), .val (.int v31), .val (.ref b33), .val (.ref b141), .val (.int v12), .val (.int v161), .val (.int v168), .val (.int j205_16)] [])) t → P0 t := by
        intro t kt
        refine K347 t ?_
        refine XS.icmpYes X312.here hx rfl (pc0 := 215) (pc' := 221) rfl (hb hby at_215) rfl (tlt hc215).2.2.1 (by decide) (by decide) ?_
        exact kt
      exact ⟨_, (if_pos hc215).symm, K348⟩
    · have K349 : ∀ t, Steps p.tables e below (T312.setTop (mkF m 221 #[.val (.int p0), .val (.int p1), .val (.int p2), .val (.int p3), .val (.int p4), .val (.int p5), .val (.int v6), .val (.int v12), .val (.int v18), .val (.int v24), .val (.int v31), .val (.ref b33), .val (.ref b141), .val (.int v12), .val (.int v161), .val (.int v168), .val (.int (3 : Int32))] [])) t → P0 t := by
        intro t kt
        refine K347 t ?_
        refine XS.icmpNo X312.here hx rfl (hb hby at_215) rfl (flt hc215).2.2.1 ?_
        refine XS.iconst X312.here hx rfl (hb hby at_218) ?_
        show Steps p.tables e below (T312.setTop (mkF m 219 #[.val (.int p0), .val (.int p1), .val (.int p2), .val (.int p3), .val (.int p4), .val (.int p5), .val (.int v6), .val (.int v12), .val (.int v18), .val (.int v24), .val (.int v31), .val (.ref b33), .val (.ref b141), .val (.int v12), .val (.int v161), .val (.int v168), .val (.int j205_16)] [(.int (3 : Int32))])) t
        refine XS.istore X312.here hx rfl (hb hby at_219) rfl (l' := #[.val (.int p0), .val (.int p1), .val (.int p2), .val (.int p3), .val (.int p4), .val (.int p5), .val (.int v6), .val (.int v12), .val (.int v18), .val (.int v24), .val (.int v31), .val (.ref b33), .val (.ref b141), .val (.int v12), .val (.int v161), .val (.int v168), .val (.int (3 : Int32))]) rfl ?_
        exact kt
      exact ⟨_, (if_neg hc215).symm, K349⟩
  obtain ⟨cq351, kq351, q351a, q351b, q351c⟩ := isOf hZ e312 F313
  obtain ⟨_, _, ⟨T351, L351, k351, n351⟩, -, X351, ⟨Lc351, hQ351, l351, y351, z351⟩, st351⟩ := X312.virtualBack hx (y := (⟨"com/example/termwright/termwright/DocumentNumbers", "segmentOf", "(I)I"⟩ : MethodName)) (z := (⟨"com/example/termwright/termwright/DocumentNumbers", "segmentOf", "(I)I"⟩ : MethodName)) hown (mvT hZ (hw _ (gw 52 rfl))) (mvT hZ (hw _ (gw 53 rfl))) (notFace_of_selects (args := #[]) (mvT hZ (hw _ (gw 55 rfl)))) (mvT hZ (hw _ (gw 55 rfl))) (mvT hZ (hw _ (gw 54 rfl))) (by decide) (backOf (W := 0) (rm_se4 l Z a0 hw [] b141 p5 bb (fB4 v12 v18 v24 v31) h312 n0 Z312 F314 F315) hZ (hw _ (gw 56 rfl)) (hw _ (gw 29 rfl)) (by decide) (by decide)) q351a q351c (g := (mkF m 225 #[.val (.int p0), .val (.int p1), .val (.int p2), .val (.int p3), .val (.int p4), .val (.int p5), .val (.int v6), .val (.int v12), .val (.int v18), .val (.int v24), .val (.int v31), .val (.ref b33), .val (.ref b141), .val (.int v12), .val (.int v161), .val (.int v168), .val (.int j221_16)] [(.int p5), (.ref b141)])) rfl (by rw [hml]; rfl) (Steps.refl _) (argsL := [(.int p5)]) (rest := []) (lenOf law4_pd4 rfl) rfl (by show 2 * 0 + _ ≤ _; exact Nat.le_of_eq rfl) (hb hby at_225) (fun _ _ => ⟨rfl, e312, (by decide : 16 + 0 ≤ _), (by decide : 72 + 0 ≤ _)⟩)
  dsimp only [Pt.U, Pt.locs, Pt.cells, Pt.slots] at X351 l351 y351 z351 st351 hQ351
  rw [l351, y351, z351] at X351
  obtain ⟨rfl, N351q, e351⟩ := hQ351
  have N351 := Fr.app N312 N351q
  have K352 : ∀ t, Steps p.tables e below (T351.setTop (mkF m 230 #[.val (.int p0), .val (.int p1), .val (.int p2), .val (.int p3), .val (.int p4), .val (.int p5), .val (.int v6), .val (.int v12), .val (.int v18), .val (.int v24), .val (.int v31), .val (.ref b33), .val (.ref b141), .val (.int v12), .val (.int v161), .val (.int v168), .val (.int j221_16)] [(.int j221_16), (.int (fSeg4 p5 (fB4 v12 v18 v24 v31)))])) t → P0 t := by
    intro t kt
    refine K350 t ?_
    refine XS.aload X312.here hx rfl (hb hby at_221) rfl rfl ?_
    refine XS.iload X312.here hx rfl (hb hby at_223) rfl ?_
    show Steps p.tables e below (T312.setTop (mkF m 225 #[.val (.int p0), .val (.int p1), .val (.int p2), .val (.int p3), .val (.int p4), .val (.int p5), .val (.int v6), .val (.int v12), .val (.int v18), .val (.int v24), .val (.int v31), .val (.ref b33), .val (.ref b141), .val (.int v12), .val (.int v161), .val (.int v168), .val (.int j221_16)] [(.int p5), (.ref b141)])) t
    refine st351.trans ?_
    refine XS.iload X351.here hx rfl (hb hby at_228) rfl ?_
    exact kt
  obtain ⟨j238_s0, hj238_s0, K355⟩ : ∃ (j238_s0 : Int32), j238_s0 = (if (fSeg4 p5 (fB4 v12 v18 v24 v31)) = j221_16 then (1 : Int32) else (0 : Int32)) ∧ ∀ t, Steps p.tables e below (T351.setTop (mkF m 238 #[.val (.int p0), .val (.int p1), .val (.int p2), .val (.int p3), .val (.int p4), .val (.int p5), .val (.int v6), .val (.int v12), .val (.int v18), .val (.int v24), .val (.int v31), .val (.ref b33), .val (.ref b141), .val (.int v12), .val (.int v161), .val (.int v168), .val (.int j221_16)] [(.int j238_s0)])) t → P0 t := by
    by_cases hc230 : (fSeg4 p5 (fB4 v12 v18 v24 v31)) = j221_16
    · have K353 : ∀ t, Steps p.tables e below (T351.setTop (mkF m 238 #[.val (.int p0), .val (.int p1), .val (.int p2), .val (.int p3), .val (.int p4), .val (.int p5), .val (.int v6), .val (.int v12), .val (.int v18), .val (.int v24), .val (.int v31), .val (.ref b33), .val (.ref b141), .val (.int v12), .val (.int v161), .val (.int v168), .val (.int j221_16)] [(.int (1 : Int32))])) t → P0 t := by
        intro t kt
        refine K352 t ?_
        refine XS.icmpNo X351.here hx rfl (hb hby at_230) rfl (teq hc230).2 ?_
        refine XS.iconst X351.here hx rfl (hb hby at_233) ?_
        show Steps p.tables e below (T351.setTop (mkF m 234 #[.val (.int p0), .val (.int p1), .val (.int p2), .val (.int p3), .val (.int p4), .val (.int p5), .val (.int v6), .val (.int v12), .val (.int v18), .val (.int v24), .val (.int v31), .val (.ref b33), .val (.ref b141), .val (.int v12), .val (.int v161), .val (.int v168), .val (.int j221_16)] [(.int (1 : Int32))])) t
        refine XS.goto X351.here hx rfl (pc0 := 234) (pc' := 238) rfl (hb hby at_234) (by decide) (by decide) ?_
        exact kt
      exact ⟨_, (if_pos hc230).symm, K353⟩
    · have K354 : ∀ t, Steps p.tables e below (T351.setTop (mkF m 238 #[.val (.int p0), .val (.int p1), .val (.int p2), .val (.int p3), .val (.int p4), .val (.int p5), .val (.int v6), .val (.int v12), .val (.int v18), .val (.int v24), .val (.int v31), .val (.ref b33), .val (.ref b141), .val (.int v12), .val (.int v161), .val (.int v168), .val (.int j221_16)] [(.int (0 : Int32))])) t → P0 t := by
        intro t kt
        refine K352 t ?_
        refine XS.icmpYes X351.here hx rfl (pc0 := 230) (pc' := 237) rfl (hb hby at_230) rfl (feq hc230).2 (by decide) (by decide) ?_
        refine XS.iconst X351.here hx rfl (hb hby at_237) ?_
        exact kt
      exact ⟨_, (if_neg hc230).symm, K354⟩
  have hres : j238_s0 = 1 := own_plain4 p0 p1 p2 p3 p4 p5 dce v6 v12 v18 v24 v31 v161 v168 j189_16 j205_16 j221_16 j238_s0 hn hv6 hv12 hv18 hv24 hv31 hv161 hv168 hj189_16 hj205_16 hj221_16 hj238_s0
  obtain ⟨fs, hr, hrun, hended, hW⟩ := X351.leaveW hS226 (by rw [e351]; exact Y312) (v := some (.int (1 : Int32))) (fun h => by rw [Bd.returns] at h; cases h)
  refine ⟨_, _, ?_, hrun, hended, _, _, rfl, ?_, hW.1, hW.2.1, hW.2.2.1, hW.2.2.2.mono (by decide) (by decide)⟩
  · rw [hres] at K355
    have q := K355 _ (retN X351 hx (t := .boolean) Bd.returns (by simp) (hb hby at_238) hr)
    rw [hP0] at q; exact q
  · exact ⟨rfl, N351⟩
theorem rm_law (l : Launch) (Z : State) (a0 : Array Value) (hw : ∀ d ∈ tables_1, d.before a0 Z = true) (ws : List Jvm.Cond) (p0 : Int32) (p1 : Int32) (p2 : Int32) (p3 : Int32) (p4 : Int32) (p5 : Int32) (dce : Addr) (h0 : Heap) (n0 : Nat) (Z0 : n0 ≤ h0.size) (H0 : LA Z h0 dce 0) (H1 : Sta Z h0 "java/util/ArrayList" "DEFAULTCAPACITY_EMPTY_ELEMENTDATA" "[Ljava/lang/Object;" (.ref dce)) :
    MetFree l x (head1 (Jvm.Cond.code x code maxLocals ret :: ws) room_1) (fun a U => a = #[(.int p0), (.int p1), (.int p2), (.int p3), (.int p4), (.int p5)] ∧ Z.Warmed39 U.vm ∧ U.heap = h0) (fun _ _ _ _ _ => True) (fun _ U o U' => ∃ v L, o = .returned v ∧ QL n0 v U'.heap L ∧ ReturnedEndW U o U' L room_1.cells room_1.slots) := by
  rcases own_shape p0 with hn | hn | hn | hn | hn
  · exact rm_law0 l Z a0 hw ws p0 p1 p2 p3 p4 p5 dce h0 n0 Z0 H0 H1 hn
  · exact rm_law1 l Z a0 hw ws p0 p1 p2 p3 p4 p5 dce h0 n0 Z0 H0 H1 hn
  · exact rm_law2 l Z a0 hw ws p0 p1 p2 p3 p4 p5 dce h0 n0 Z0 H0 H1 hn
  · exact rm_law3 l Z a0 hw ws p0 p1 p2 p3 p4 p5 dce h0 n0 Z0 H0 H1 hn
  · exact rm_law4 l Z a0 hw ws p0 p1 p2 p3 p4 p5 dce h0 n0 Z0 H0 H1 hn
set_option maxRecDepth 65536 in
set_option maxHeartbeats 40000000 in
theorem comes_1 {Post : Tables → Env → Array Value → State → Outcome → State → Prop} (hpost : ∀ tb e args s v u, (limb_1_1.after args s (.returned v) u = true ∧ limb_1_2.after args s (.returned v) u = true ∧ True) → ReturnedEndW s (.returned v) u (Jvm.fieldLocs frame_1_writes args s ++ Jvm.arrayLocs frame_1_arrays args s ++ Jvm.staticLocs frame_1_statics s) 32 1216 → Post tb e args s (.returned v) u) :
    ArmFor flags0 classFile x code maxLocals ret World_1 tables_1 room_1 Calls_1 rest_1 Pre_1 Post := by
  intro l hfl _ _ p e ha hc hk s m args below hf hA hF happ hP
  obtain ⟨hcalls, hrest, hpre⟩ := hP
  obtain ⟨-, -, -, hnamed, -, -, -, hat⟩ := (Spec.applies_iff hf).mp happ
  obtain ⟨hg, hn⟩ := and_e (Cond.before_iff.mp (show (Jvm.Cond.and given_1 narrow_1).before args s = true from hpre))
  obtain ⟨gc, gr0⟩ := and_e hg
  obtain ⟨ga0, gr1⟩ := and_e gr0
  obtain ⟨ga1, gr2⟩ := and_e gr1
  obtain ⟨ga2, gr3⟩ := and_e gr2
  obtain ⟨ga3, gr4⟩ := and_e gr3
  obtain ⟨ga4, gr5⟩ := and_e gr4
  obtain ⟨w0, w1, w2, w3, w4, w5, rfl⟩ : ∃ w0 w1 w2 w3 w4 w5 : Value, args = #[w0, w1, w2, w3, w4, w5] := by
    have hs : args.size = 6 := by simpa [Cond.value, given_1] using gc
    obtain ⟨L⟩ := args
    match L, hs with
    | [w0, w1, w2, w3, w4, w5], _ => exact ⟨w0, w1, w2, w3, w4, w5, rfl⟩
  have hw := fun d (hd : d ∈ tables_1) => atoms_spec (ws := Jvm.Cond.code x code maxLocals ret :: tables_1) hat d (List.mem_cons_of_mem _ hd)
  obtain ⟨i0, ei0⟩ := is_v ga0
  obtain rfl : w0 = (.int i0) := Option.some.inj ei0
  obtain ⟨i1, ei1⟩ := is_v ga1
  obtain rfl : w1 = (.int i1) := Option.some.inj ei1
  obtain ⟨i2, ei2⟩ := is_v ga2
  obtain rfl : w2 = (.int i2) := Option.some.inj ei2
  obtain ⟨i3, ei3⟩ := is_v ga3
  obtain rfl : w3 = (.int i3) := Option.some.inj ei3
  obtain ⟨i4, ei4⟩ := is_v ga4
  obtain rfl : w4 = (.int i4) := Option.some.inj ei4
  obtain ⟨i5, ei5⟩ := is_v gr5
  obtain rfl : w5 = (.int i5) := Option.some.inj ei5
  obtain ⟨hsets, -⟩ := atoms_of _ (rest_1_c_eq ▸ (show rest_1_c.before _ s = true from hrest))
  have q6 := Cond.before_iff.mp (hsets _ (List.mem_of_getElem? (i := 6) rfl))
  obtain ⟨dce, ev⟩ := arr_v q6
  obtain ⟨cl, A⟩ := Arr.start ev q6
  have S0 := Sta.start ev (Or.inr ⟨(hw _ (gw 3 rfl)), (hsets _ (List.mem_of_getElem? (i := 2) rfl))⟩)
  have q8 := eqv_i (Term.int_eval (0)) (Cond.before_iff.mp (hsets _ (List.mem_of_getElem? (i := 8) rfl)))
  obtain ⟨a', cell', ev', hat', hz'⟩ := own_len0 q8
  have ea : a' = dce := by rw [ev] at ev'; injection ev' with z; injection z with z; exact z.symm
  subst ea
  have ec : cell' = cl := by have z := (Arr.fin (State.Warmed39.refl s).alike A).symm.trans hat'; injection z with z; exact z.symm
  subst ec
  have V0 : LA s s.heap a' 0 := ⟨_, A, hz'⟩
  obtain ⟨n, o, h1, h2, h3, _, L, rfl, ⟨rfl, N⟩, hq⟩ := rm_law l s _ hw tables_1 i0 i1 i2 i3 i4 i5 a' s.heap s.heap.size (Nat.le_refl _) V0 S0 p e ha hc hk s m _ below hf ((Spec.applies_iff_loose hf).mp happ).1 ⟨rfl, State.Warmed39.refl s, rfl⟩ trivial
  refine ⟨n, _, h1, h2, h3, hpost _ _ _ _ _ _ ⟨Cond.after_iff.mpr rfl, Cond.after_iff.mpr (eq_i res_at (Term.int_eval (1)) rfl), trivial⟩ ⟨hq.1, hq.2.1, hq.2.2.1, (hq.2.2.2.sift fun y hy => Or.inr (N y hy)).mono (by decide) (by decide)⟩⟩
theorem main_1_1 : Claimed_1_1 := comes_1 fun _ _ _ _ _ _ h hF => ⟨h.1, hF⟩
theorem main_1_2 : Claimed_1_2 := comes_1 fun _ _ _ _ _ _ h hF => ⟨h.2.1, hF⟩
end Jvm.Pilot.@@N@@
namespace Jvm.Pilot.@@N@@
open Jvm Jvm.ClassFile Sem Op Lib Jvm.Free Jvm.Stand Jvm.Pilot.@@N@@.Jvm.D
/-! MADE BY PROGRAM (witnessworld.py) out of the Statement's table words and the real class files: 28 classes; the members and pool entries that the words name. The judged class is class 1, her method 1. -/
namespace start1
open Jvm.ClassFile
def u (s : String) : CpInfo := .utf8 (stringToUtf16 s)
/-- a pool by its gaps: so many unusable entries, then the entry; so many at the end -/
def gap : Nat → List CpInfo → List CpInfo
  | 0, r => r
  | n + 1, r => .unusable :: gap n r
def poolList (es : List (Nat × CpInfo)) (last : Nat) : List CpInfo := es.foldr (fun e r => gap e.1 (e.2 :: r)) (gap last [])
def pool (es : List (Nat × CpInfo)) (last : Nat) : Array CpInfo := ⟨poolList es last⟩
def fileOf (pool : Array CpInfo) (this : Nat) (attrs : Array Attribute := #[]) (ms : Array MethodInfo := #[]) (fl : Nat := 33) (sup : Nat := 0) (ifs : Array Nat := #[]) (fds : Array FieldInfo := #[]) : ClassFile where
  minorVersion := 0
  majorVersion := 65
  constantPool := pool
  accessFlags := fl
  thisClass := this
  superClass := sup
  interfaces := ifs
  fields := fds
  methods := ms
  attributes := attrs
def plain (name : String) (sup : Option ClassId) : Class where
  name := name
  kind := .ordinary
  loader := none
  accessFlags := 33
  super := sup
  interfaces := #[]
  cf := none
  fields := #[]
  methods := #[]
  instanceTypes := #[]
  staticTypes := #[]
  resolved := #[]
  callSites := []
  init := .initialized
  statics := none
  mirror := none

def pool0 : Array CpInfo := pool [(5, u "<init>"), (0, u "()V"), (1, .class_ 10), (1, u "java/lang/Object")] 113

def k0c0 : Code := { maxStack := 0, maxLocals := 1, code := object_method_1_code, exceptionTable := #[], attributes := #[] }
def k0m0 : Method := { name := "<init>", desc := "()V", sig := { parameters := [], returnType := none }, accessFlags := 1, code := some k0c0 }
/-- java/lang/Object -/
def k0 : Class := { plain "java/lang/Object" none with
  accessFlags := 33
  interfaces := #[]
  cf := some (fileOf pool0 8 #[] #[{ accessFlags := 1, nameIndex := 5, descriptorIndex := 6, attributes := #[] }] 33 0 #[] #[])
  fields := #[]
  methods := #[k0m0]
  instanceTypes := #[]
  staticTypes := #[]
  resolved := Array.replicate 124 none
  statics := none }

def pool1 : Array CpInfo := pool [(2, .class_ 4), (0, .nameAndType 5 6), (0, u "java/lang/Object"), (0, u "<init>"), (0, u "()V"), (0, .integer 536870911), (0, .class_ 9), (0, u "java/util/ArrayList"), (0, .methodref 8 3), (0, .class_ 12), (0, u "com/example/termwright/termwright/Commit$Segment"), (0, .string 14), (0, u "s"), (0, .methodref 11 16), (0, .nameAndType 5 17), (0, u "(Ljava/lang/String;IJI)V"), (0, .methodref 8 19), (0, .nameAndType 20 21), (0, u "add"), (0, u "(Ljava/lang/Object;)Z"), (0, .class_ 23), (0, u "com/example/termwright/termwright/DocumentNumbers"), (0, .methodref 22 25), (0, .nameAndType 5 26), (0, u "(Ljava/util/List;)V"), (0, .methodref 22 28), (0, .nameAndType 29 30), (0, u "segmentOf"), (0, u "(I)I"), (0, .class_ 32), (0, u "com/example/termwright/termwright/DocumentNumbersSegmentOfPinLaw"), (2, u "law"), (0, u "(IIIIII)Z")] 7

def k1m0 : Method := { name := "<init>", desc := "()V", sig := { parameters := [], returnType := none }, accessFlags := 1, code := none }
def k1c1 : Code := { maxStack := 8, maxLocals := 17, code := code, exceptionTable := #[], attributes := #[] }
def k1m1 : Method := { name := "law", desc := "(IIIIII)Z", sig := { parameters := [.int, .int, .int, .int, .int, .int], returnType := some .boolean }, accessFlags := 9, code := some k1c1 }
/-- com/example/termwright/termwright/DocumentNumbersSegmentOfPinLaw -/
def k1 : Class := { plain "com/example/termwright/termwright/DocumentNumbersSegmentOfPinLaw" (some 0) with
  accessFlags := 49
  interfaces := #[]
  cf := some (fileOf pool1 31 #[] #[{ accessFlags := 1, nameIndex := 5, descriptorIndex := 6, attributes := #[] }, { accessFlags := 9, nameIndex := 35, descriptorIndex := 36, attributes := #[] }] 49 2 #[] #[])
  fields := #[]
  methods := #[k1m0, k1m1]
  instanceTypes := #[]
  staticTypes := #[]
  resolved := Array.replicate 44 none
  statics := none }

def pool2 : Array CpInfo := pool [(8, .class_ 10), (1, u "java/lang/Iterable"), (24, .class_ 36), (0, u "java/lang/Object")] 25

/-- java/lang/Iterable -/
def k2 : Class := { plain "java/lang/Iterable" (some 0) with
  accessFlags := 1537
  interfaces := #[]
  cf := some (fileOf pool2 8 #[] #[] 1537 35 #[] #[])
  fields := #[]
  methods := #[]
  instanceTypes := #[]
  staticTypes := #[]
  resolved := Array.replicate 62 none
  statics := none }

def pool3 : Array CpInfo := pool [(10, .class_ 12), (1, u "java/util/Collection"), (47, .class_ 61), (0, u "java/lang/Object"), (0, .class_ 63), (0, u "java/lang/Iterable")] 51

/-- java/util/Collection -/
def k3 : Class := { plain "java/util/Collection" (some 0) with
  accessFlags := 1537
  interfaces := #[2]
  cf := some (fileOf pool3 10 #[] #[] 1537 60 #[62] #[])
  fields := #[]
  methods := #[]
  instanceTypes := #[]
  staticTypes := #[]
  resolved := Array.replicate 115 none
  statics := none }

def pool4 : Array CpInfo := pool [(1, .methodref 2 3), (0, .class_ 4), (0, .nameAndType 5 6), (0, u "java/lang/Object"), (0, u "<init>"), (0, u "()V"), (1, .class_ 10), (1, u "java/util/AbstractCollection"), (66, .class_ 78), (0, u "java/util/Collection")] 81

def k4c0 : Code := { maxStack := 1, maxLocals := 1, code := jdk_22_method_1_code, exceptionTable := #[], attributes := #[] }
def k4m0 : Method := { name := "<init>", desc := "()V", sig := { parameters := [], returnType := none }, accessFlags := 4, code := some k4c0 }
/-- java/util/AbstractCollection -/
def k4 : Class := { plain "java/util/AbstractCollection" (some 0) with
  accessFlags := 1057
  interfaces := #[3]
  cf := some (fileOf pool4 8 #[] #[{ accessFlags := 4, nameIndex := 5, descriptorIndex := 6, attributes := #[] }] 1057 2 #[77] #[])
  fields := #[]
  methods := #[k4m0]
  instanceTypes := #[]
  staticTypes := #[]
  resolved := Array.replicate 160 none
  statics := none }

def pool5 : Array CpInfo := pool [(8, .class_ 10), (1, u "java/util/SequencedCollection"), (15, .class_ 27), (0, u "java/lang/Object"), (0, .class_ 29), (0, u "java/util/Collection")] 27

/-- java/util/SequencedCollection -/
def k5 : Class := { plain "java/util/SequencedCollection" (some 0) with
  accessFlags := 1537
  interfaces := #[3]
  cf := some (fileOf pool5 8 #[] #[] 1537 26 #[28] #[])
  fields := #[]
  methods := #[]
  instanceTypes := #[]
  staticTypes := #[]
  resolved := Array.replicate 57 none
  statics := none }

def pool6 : Array CpInfo := pool [(8, .class_ 10), (1, u "java/util/List"), (64, u "get"), (0, u "(I)Ljava/lang/Object;"), (2, u "size"), (0, u "()I"), (22, .class_ 104), (0, u "java/lang/Object"), (15, .class_ 121), (0, u "java/util/SequencedCollection")] 129

def k6m0 : Method := { name := "size", desc := "()I", sig := { parameters := [], returnType := some .int }, accessFlags := 1025, code := none }
def k6m1 : Method := { name := "get", desc := "(I)Ljava/lang/Object;", sig := { parameters := [.int], returnType := some (.object "java/lang/Object") }, accessFlags := 1025, code := none }
/-- java/util/List -/
def k6 : Class := { plain "java/util/List" (some 0) with
  accessFlags := 1537
  interfaces := #[5]
  cf := some (fileOf pool6 8 #[] #[{ accessFlags := 1025, nameIndex := 79, descriptorIndex := 80, attributes := #[] }, { accessFlags := 1025, nameIndex := 75, descriptorIndex := 76, attributes := #[] }] 1537 103 #[120] #[])
  fields := #[]
  methods := #[k6m0, k6m1]
  instanceTypes := #[]
  staticTypes := #[]
  resolved := Array.replicate 251 none
  statics := none }

def pool7 : Array CpInfo := pool [(1, .methodref 2 3), (0, .class_ 4), (0, .nameAndType 5 6), (0, u "java/util/AbstractCollection"), (0, u "<init>"), (0, u "()V"), (0, .fieldref 8 9), (0, .class_ 10), (0, .nameAndType 11 12), (0, u "java/util/AbstractList"), (0, u "modCount"), (0, u "I"), (64, .class_ 78), (0, u "java/util/AbstractList$Itr"), (3, .class_ 83), (0, u "java/util/AbstractList$ListItr"), (9, .class_ 94), (0, u "java/util/AbstractList$RandomAccessSubList"), (3, .class_ 99), (0, u "java/util/AbstractList$SubList"), (33, .class_ 134), (0, u "java/util/List"), (73, .class_ 209), (0, u "java/util/AbstractList$SubList$1"), (0, .class_ 211), (0, u "java/util/AbstractList$RandomAccessSpliterator")] 6

def k7c0 : Code := { maxStack := 2, maxLocals := 1, code := jdk_39_method_1_code, exceptionTable := #[], attributes := #[] }
def k7m0 : Method := { name := "<init>", desc := "()V", sig := { parameters := [], returnType := none }, accessFlags := 4, code := some k7c0 }
/-- java/util/AbstractList -/
def k7 : Class := { plain "java/util/AbstractList" (some 4) with
  accessFlags := 1057
  interfaces := #[6]
  cf := some (fileOf pool7 8 #[.nestMembers #[93, 98, 208, 210, 82, 77]] #[{ accessFlags := 4, nameIndex := 5, descriptorIndex := 6, attributes := #[] }] 1057 2 #[133] #[{ accessFlags := 132, nameIndex := 11, descriptorIndex := 12, attributes := #[] }])
  fields := #[{ name := "modCount", type := .int, accessFlags := 132, slot := 0, constantValue := 0 }]
  methods := #[k7m0]
  instanceTypes := #[.int]
  staticTypes := #[]
  resolved := Array.replicate 218 none
  statics := none }

def pool8 : Array CpInfo := pool [(1, .class_ 2), (0, u "java/util/RandomAccess"), (0, .class_ 4), (0, u "java/lang/Object")] 2

/-- java/util/RandomAccess -/
def k8 : Class := { plain "java/util/RandomAccess" (some 0) with
  accessFlags := 1537
  interfaces := #[]
  cf := some (fileOf pool8 1 #[] #[] 1537 3 #[] #[])
  fields := #[]
  methods := #[]
  instanceTypes := #[]
  staticTypes := #[]
  resolved := Array.replicate 7 none
  statics := none }

def pool9 : Array CpInfo := pool [(1, .class_ 2), (0, u "java/lang/Cloneable"), (0, .class_ 4), (0, u "java/lang/Object")] 2

/-- java/lang/Cloneable -/
def k9 : Class := { plain "java/lang/Cloneable" (some 0) with
  accessFlags := 1537
  interfaces := #[]
  cf := some (fileOf pool9 1 #[] #[] 1537 3 #[] #[])
  fields := #[]
  methods := #[]
  instanceTypes := #[]
  staticTypes := #[]
  resolved := Array.replicate 7 none
  statics := none }

def pool10 : Array CpInfo := pool [(1, .class_ 2), (0, u "java/io/Serializable"), (0, .class_ 4), (0, u "java/lang/Object")] 2

/-- java/io/Serializable -/
def k10 : Class := { plain "java/io/Serializable" (some 0) with
  accessFlags := 1537
  interfaces := #[]
  cf := some (fileOf pool10 1 #[] #[] 1537 3 #[] #[])
  fields := #[]
  methods := #[]
  instanceTypes := #[]
  staticTypes := #[]
  resolved := Array.replicate 7 none
  statics := none }

def pool11 : Array CpInfo := pool [(1, .methodref 2 3), (0, .class_ 4), (0, .nameAndType 5 6), (0, u "java/util/AbstractList"), (0, u "<init>"), (0, u "()V"), (0, .class_ 8), (0, u "java/lang/Object"), (0, .fieldref 10 11), (0, .class_ 12), (0, .nameAndType 13 14), (0, u "java/util/ArrayList"), (0, u "elementData"), (0, u "[Ljava/lang/Object;"), (2, u "EMPTY_ELEMENTDATA"), (21, .fieldref 10 40), (0, .nameAndType 41 14), (0, u "DEFAULTCAPACITY_EMPTY_ELEMENTDATA"), (5, u "()[Ljava/lang/Object;"), (0, .fieldref 10 49), (0, .nameAndType 50 51), (0, u "size"), (0, u "I"), (11, .fieldref 10 64), (0, .nameAndType 65 51), (0, u "modCount"), (3, .methodref 10 70), (0, .nameAndType 71 72), (0, u "grow"), (0, u "(I)[Ljava/lang/Object;"), (6, .methodref 80 81), (0, .class_ 82), (0, .nameAndType 83 84), (0, u "java/lang/Math"), (0, u "max"), (0, u "(II)I"), (11, u "(Ljava/lang/Object;)Z"), (21, .methodref 119 120), (0, .class_ 121), (0, .nameAndType 122 84), (0, u "java/util/Objects"), (0, u "checkIndex"), (0, .methodref 10 124), (0, .nameAndType 13 125), (0, u "(I)Ljava/lang/Object;"), (3, .methodref 10 130), (0, .nameAndType 71 47), (0, .methodref 10 132), (0, .nameAndType 133 134), (0, u "add"), (0, u "(Ljava/lang/Object;[Ljava/lang/Object;I)V"), (13, .class_ 149), (0, u "java/util/List"), (36, u "()I"), (75, .class_ 263), (0, u "java/util/ArrayList$ListItr"), (3, .class_ 268), (0, u "java/util/ArrayList$Itr"), (7, .class_ 277), (0, u "java/util/ArrayList$SubList"), (12, .class_ 291), (0, u "java/util/ArrayList$ArrayListSpliterator"), (37, .class_ 330), (0, u "java/util/RandomAccess"), (0, .class_ 332), (0, u "java/lang/Cloneable"), (0, .class_ 334), (0, u "java/io/Serializable"), (0, u "serialVersionUID"), (0, u "J"), (3, u "DEFAULT_CAPACITY"), (40, u "get"), (118, .class_ 501), (0, u "java/util/ArrayList$SubList$2"), (0, .class_ 503), (0, u "java/util/ArrayList$SubList$1")] 5

def k11c0 : Code := { maxStack := 2, maxLocals := 1, code := jdk_38_method_2_code, exceptionTable := #[], attributes := #[] }
def k11m0 : Method := { name := "<init>", desc := "()V", sig := { parameters := [], returnType := none }, accessFlags := 1, code := some k11c0 }
def k11c1 : Code := { maxStack := 4, maxLocals := 4, code := jdk_38_method_6_code, exceptionTable := #[], attributes := #[] }
def k11m1 : Method := { name := "grow", desc := "(I)[Ljava/lang/Object;", sig := { parameters := [.int], returnType := some (.array (.object "java/lang/Object")) }, accessFlags := 2, code := some k11c1 }
def k11c2 : Code := { maxStack := 3, maxLocals := 1, code := jdk_38_method_7_code, exceptionTable := #[], attributes := #[] }
def k11m2 : Method := { name := "grow", desc := "()[Ljava/lang/Object;", sig := { parameters := [], returnType := some (.array (.object "java/lang/Object")) }, accessFlags := 2, code := some k11c2 }
def k11c3 : Code := { maxStack := 1, maxLocals := 1, code := jdk_38_method_8_code, exceptionTable := #[], attributes := #[] }
def k11m3 : Method := { name := "size", desc := "()I", sig := { parameters := [], returnType := some .int }, accessFlags := 1, code := some k11c3 }
def k11c4 : Code := { maxStack := 2, maxLocals := 2, code := jdk_38_method_18_code, exceptionTable := #[], attributes := #[] }
def k11m4 : Method := { name := "elementData", desc := "(I)Ljava/lang/Object;", sig := { parameters := [.int], returnType := some (.object "java/lang/Object") }, accessFlags := 0, code := some k11c4 }
def k11c5 : Code := { maxStack := 2, maxLocals := 2, code := jdk_38_method_20_code, exceptionTable := #[], attributes := #[] }
def k11m5 : Method := { name := "get", desc := "(I)Ljava/lang/Object;", sig := { parameters := [.int], returnType := some (.object "java/lang/Object") }, accessFlags := 1, code := some k11c5 }
def k11c6 : Code := { maxStack := 3, maxLocals := 4, code := jdk_38_method_24_code, exceptionTable := #[], attributes := #[] }
def k11m6 : Method := { name := "add", desc := "(Ljava/lang/Object;[Ljava/lang/Object;I)V", sig := { parameters := [(.object "java/lang/Object"), (.array (.object "java/lang/Object")), .int], returnType := none }, accessFlags := 2, code := some k11c6 }
def k11c7 : Code := { maxStack := 4, maxLocals := 2, code := jdk_38_method_25_code, exceptionTable := #[], attributes := #[] }
def k11m7 : Method := { name := "add", desc := "(Ljava/lang/Object;)Z", sig := { parameters := [(.object "java/lang/Object")], returnType := some .boolean }, accessFlags := 1, code := some k11c7 }
/-- java/util/ArrayList -/
def k11 : Class := { plain "java/util/ArrayList" (some 7) with
  accessFlags := 33
  interfaces := #[6, 8, 9, 10]
  cf := some (fileOf pool11 10 #[.nestMembers #[290, 276, 500, 502, 262, 267]] #[{ accessFlags := 1, nameIndex := 5, descriptorIndex := 6, attributes := #[] }, { accessFlags := 2, nameIndex := 71, descriptorIndex := 72, attributes := #[] }, { accessFlags := 2, nameIndex := 71, descriptorIndex := 47, attributes := #[] }, { accessFlags := 1, nameIndex := 50, descriptorIndex := 186, attributes := #[] }, { accessFlags := 0, nameIndex := 13, descriptorIndex := 125, attributes := #[] }, { accessFlags := 1, nameIndex := 381, descriptorIndex := 125, attributes := #[] }, { accessFlags := 2, nameIndex := 133, descriptorIndex := 134, attributes := #[] }, { accessFlags := 1, nameIndex := 133, descriptorIndex := 96, attributes := #[] }] 33 2 #[148, 329, 331, 333] #[{ accessFlags := 26, nameIndex := 335, descriptorIndex := 336, attributes := #[] }, { accessFlags := 26, nameIndex := 340, descriptorIndex := 51, attributes := #[] }, { accessFlags := 26, nameIndex := 17, descriptorIndex := 14, attributes := #[] }, { accessFlags := 26, nameIndex := 41, descriptorIndex := 14, attributes := #[] }, { accessFlags := 128, nameIndex := 13, descriptorIndex := 14, attributes := #[] }, { accessFlags := 2, nameIndex := 50, descriptorIndex := 51, attributes := #[] }])
  fields := #[{ name := "serialVersionUID", type := .long, accessFlags := 26, slot := 0, constantValue := 0 }, { name := "DEFAULT_CAPACITY", type := .int, accessFlags := 26, slot := 1, constantValue := 0 }, { name := "EMPTY_ELEMENTDATA", type := (.array (.object "java/lang/Object")), accessFlags := 26, slot := 2, constantValue := 0 }, { name := "DEFAULTCAPACITY_EMPTY_ELEMENTDATA", type := (.array (.object "java/lang/Object")), accessFlags := 26, slot := 3, constantValue := 0 }, { name := "elementData", type := (.array (.object "java/lang/Object")), accessFlags := 128, slot := 1, constantValue := 0 }, { name := "size", type := .int, accessFlags := 2, slot := 2, constantValue := 0 }]
  methods := #[k11m0, k11m1, k11m2, k11m3, k11m4, k11m5, k11m6, k11m7]
  instanceTypes := #[.int, (.array (.object "java/lang/Object")), .int]
  staticTypes := #[.long, .int, (.array (.object "java/lang/Object")), (.array (.object "java/lang/Object"))]
  resolved := Array.replicate 509 none
  statics := some 0 }

def pool12 : Array CpInfo := pool [(1, .methodref 2 3), (0, .class_ 4), (0, .nameAndType 5 6), (0, u "java/lang/Object"), (0, u "<init>"), (0, u "()V"), (0, .interfaceMethodref 8 9), (0, .class_ 10), (0, .nameAndType 11 12), (0, u "java/util/List"), (0, u "size"), (0, u "()I"), (0, .fieldref 14 15), (0, .class_ 16), (0, .nameAndType 17 18), (0, u "com/example/termwright/termwright/DocumentNumbers"), (0, u "bases"), (0, u "[I"), (0, .interfaceMethodref 8 20), (0, .nameAndType 21 22), (0, u "get"), (0, u "(I)Ljava/lang/Object;"), (0, .class_ 24), (0, u "com/example/termwright/termwright/Commit$Segment"), (0, .methodref 23 26), (0, .nameAndType 27 12), (0, u "documentCount"), (0, .methodref 29 30), (0, .class_ 31), (0, .nameAndType 32 33), (0, u "java/lang/Math"), (0, u "addExact"), (0, u "(II)I"), (0, .methodref 23 35), (0, .nameAndType 36 12), (0, u "deletedCount"), (0, .fieldref 14 38), (0, .nameAndType 39 40), (0, u "count"), (0, u "I"), (0, .fieldref 14 42), (0, .nameAndType 36 40), (0, u "(Ljava/util/List;)V"), (7, u "(I)I"), (0, u "segmentOf")] 7

def k12c0 : Code := { maxStack := 3, maxLocals := 5, code := prog_33_method_1_code, exceptionTable := #[], attributes := #[] }
def k12m0 : Method := { name := "<init>", desc := "(Ljava/util/List;)V", sig := { parameters := [(.object "java/util/List")], returnType := none }, accessFlags := 0, code := some k12c0 }
def k12c1 : Code := { maxStack := 2, maxLocals := 5, code := prog_33_method_6_code, exceptionTable := #[], attributes := #[] }
def k12m1 : Method := { name := "segmentOf", desc := "(I)I", sig := { parameters := [.int], returnType := some .int }, accessFlags := 0, code := some k12c1 }
/-- com/example/termwright/termwright/DocumentNumbers -/
def k12 : Class := { plain "com/example/termwright/termwright/DocumentNumbers" (some 0) with
  accessFlags := 48
  interfaces := #[]
  cf := some (fileOf pool12 14 #[] #[{ accessFlags := 0, nameIndex := 5, descriptorIndex := 43, attributes := #[] }, { accessFlags := 0, nameIndex := 52, descriptorIndex := 51, attributes := #[] }] 48 2 #[] #[{ accessFlags := 18, nameIndex := 17, descriptorIndex := 18, attributes := #[] }, { accessFlags := 18, nameIndex := 39, descriptorIndex := 40, attributes := #[] }, { accessFlags := 18, nameIndex := 36, descriptorIndex := 40, attributes := #[] }])
  fields := #[{ name := "bases", type := (.array .int), accessFlags := 18, slot := 0, constantValue := 0 }, { name := "count", type := .int, accessFlags := 18, slot := 1, constantValue := 0 }, { name := "deletedCount", type := .int, accessFlags := 18, slot := 2, constantValue := 0 }]
  methods := #[k12m0, k12m1]
  instanceTypes := #[(.array .int), .int, .int]
  staticTypes := #[]
  resolved := Array.replicate 60 none
  statics := none }

def pool13 : Array CpInfo := pool [(1, .methodref 2 3), (0, .class_ 4), (0, .nameAndType 5 6), (0, u "java/lang/Object"), (0, u "<init>"), (0, u "()V"), (0, .class_ 8), (0, u "java/lang/Record")] 13

def k13c0 : Code := { maxStack := 1, maxLocals := 1, code := jdk_30_method_1_code, exceptionTable := #[], attributes := #[] }
def k13m0 : Method := { name := "<init>", desc := "()V", sig := { parameters := [], returnType := none }, accessFlags := 4, code := some k13c0 }
/-- java/lang/Record -/
def k13 : Class := { plain "java/lang/Record" (some 0) with
  accessFlags := 1057
  interfaces := #[]
  cf := some (fileOf pool13 7 #[] #[{ accessFlags := 4, nameIndex := 5, descriptorIndex := 6, attributes := #[] }] 1057 2 #[] #[])
  fields := #[]
  methods := #[k13m0]
  instanceTypes := #[]
  staticTypes := #[]
  resolved := Array.replicate 22 none
  statics := none }

def pool14 : Array CpInfo := pool [(1, .methodref 2 3), (0, .class_ 4), (0, .nameAndType 5 6), (0, u "java/lang/Record"), (0, u "<init>"), (0, u "()V"), (0, .fieldref 8 9), (0, .class_ 10), (0, .nameAndType 11 12), (0, u "com/example/termwright/termwright/Commit$Segment"), (0, u "name"), (0, u "Ljava/lang/String;"), (0, .fieldref 8 14), (0, .nameAndType 15 16), (0, u "documentCount"), (0, u "I"), (0, .fieldref 8 18), (0, .nameAndType 19 20), (0, u "length"), (0, u "J"), (0, .fieldref 8 22), (0, .nameAndType 23 16), (0, u "checksum"), (0, .fieldref 8 25), (0, .nameAndType 26 27), (0, u "deletions"), (0, u "Lcom/example/termwright/termwright/Commit$DeletionsFile;"), (0, .methodref 8 29), (0, .nameAndType 5 30), (0, u "(Ljava/lang/String;IJILcom/example/termwright/termwright/Commit$DeletionsFile;)V"), (2, u "(Ljava/lang/String;IJI)V"), (11, u "()I"), (2, u "deletedCount"), (26, .class_ 76), (0, u "com/example/termwright/termwright/Commit")] 24

def k14c0 : Code := { maxStack := 7, maxLocals := 6, code := prog_28_method_1_code, exceptionTable := #[], attributes := #[] }
def k14m0 : Method := { name := "<init>", desc := "(Ljava/lang/String;IJI)V", sig := { parameters := [(.object "java/lang/String"), .int, .long, .int], returnType := none }, accessFlags := 0, code := some k14c0 }
def k14c1 : Code := { maxStack := 3, maxLocals := 7, code := prog_28_method_2_code, exceptionTable := #[], attributes := #[] }
def k14m1 : Method := { name := "<init>", desc := "(Ljava/lang/String;IJILcom/example/termwright/termwright/Commit$DeletionsFile;)V", sig := { parameters := [(.object "java/lang/String"), .int, .long, .int, (.object "com/example/termwright/termwright/Commit$DeletionsFile")], returnType := none }, accessFlags := 0, code := some k14c1 }
def k14c2 : Code := { maxStack := 1, maxLocals := 1, code := prog_28_method_5_code, exceptionTable := #[], attributes := #[] }
def k14m2 : Method := { name := "deletedCount", desc := "()I", sig := { parameters := [], returnType := some .int }, accessFlags := 0, code := some k14c2 }
def k14c3 : Code := { maxStack := 1, maxLocals := 1, code := prog_28_method_11_code, exceptionTable := #[], attributes := #[] }
def k14m3 : Method := { name := "documentCount", desc := "()I", sig := { parameters := [], returnType := some .int }, accessFlags := 1, code := some k14c3 }
/-- com/example/termwright/termwright/Commit$Segment -/
def k14 : Class := { plain "com/example/termwright/termwright/Commit$Segment" (some 13) with
  accessFlags := 48
  interfaces := #[]
  cf := some (fileOf pool14 8 #[.nestHost 75] #[{ accessFlags := 0, nameIndex := 5, descriptorIndex := 33, attributes := #[] }, { accessFlags := 0, nameIndex := 5, descriptorIndex := 30, attributes := #[] }, { accessFlags := 0, nameIndex := 48, descriptorIndex := 45, attributes := #[] }, { accessFlags := 1, nameIndex := 15, descriptorIndex := 45, attributes := #[] }] 48 2 #[] #[{ accessFlags := 18, nameIndex := 11, descriptorIndex := 12, attributes := #[] }, { accessFlags := 18, nameIndex := 15, descriptorIndex := 16, attributes := #[] }, { accessFlags := 18, nameIndex := 19, descriptorIndex := 20, attributes := #[] }, { accessFlags := 18, nameIndex := 23, descriptorIndex := 16, attributes := #[] }, { accessFlags := 18, nameIndex := 26, descriptorIndex := 27, attributes := #[] }])
  fields := #[{ name := "name", type := (.object "java/lang/String"), accessFlags := 18, slot := 0, constantValue := 0 }, { name := "documentCount", type := .int, accessFlags := 18, slot := 1, constantValue := 0 }, { name := "length", type := .long, accessFlags := 18, slot := 2, constantValue := 0 }, { name := "checksum", type := .int, accessFlags := 18, slot := 3, constantValue := 0 }, { name := "deletions", type := (.object "com/example/termwright/termwright/Commit$DeletionsFile"), accessFlags := 18, slot := 4, constantValue := 0 }]
  methods := #[k14m0, k14m1, k14m2, k14m3]
  instanceTypes := #[(.object "java/lang/String"), .int, .long, .int, (.object "com/example/termwright/termwright/Commit$DeletionsFile")]
  staticTypes := #[]
  resolved := Array.replicate 101 none
  statics := none }

def pool15 : Array CpInfo := pool [(1, .class_ 2), (0, u "java/lang/Comparable"), (0, .class_ 4), (0, u "java/lang/Object")] 7

/-- java/lang/Comparable -/
def k15 : Class := { plain "java/lang/Comparable" (some 0) with
  accessFlags := 1537
  interfaces := #[]
  cf := some (fileOf pool15 1 #[] #[] 1537 3 #[] #[])
  fields := #[]
  methods := #[]
  instanceTypes := #[]
  staticTypes := #[]
  resolved := Array.replicate 12 none
  statics := none }

def pool16 : Array CpInfo := pool [(2, .class_ 4), (1, u "java/lang/CharSequence"), (42, .class_ 48), (0, u "java/lang/CharSequence$1CodePointIterator"), (10, .class_ 60), (0, u "java/lang/CharSequence$1CharIterator"), (5, .class_ 67), (0, u "java/lang/Object")] 63

/-- java/lang/CharSequence -/
def k16 : Class := { plain "java/lang/CharSequence" (some 0) with
  accessFlags := 1537
  interfaces := #[]
  cf := some (fileOf pool16 2 #[.nestMembers #[47, 59]] #[] 1537 66 #[] #[])
  fields := #[]
  methods := #[]
  instanceTypes := #[]
  staticTypes := #[]
  resolved := Array.replicate 131 none
  statics := none }

def pool17 : Array CpInfo := pool [(1, .class_ 2), (0, u "java/lang/constant/Constable"), (0, .class_ 4), (0, u "java/lang/Object")] 6

/-- java/lang/constant/Constable -/
def k17 : Class := { plain "java/lang/constant/Constable" (some 0) with
  accessFlags := 1537
  interfaces := #[]
  cf := some (fileOf pool17 1 #[] #[] 1537 3 #[] #[])
  fields := #[]
  methods := #[]
  instanceTypes := #[]
  staticTypes := #[]
  resolved := Array.replicate 11 none
  statics := none }

def pool18 : Array CpInfo := pool [(1, .class_ 2), (0, u "java/lang/constant/ConstantDesc"), (0, .class_ 4), (0, u "java/lang/Object")] 32

/-- java/lang/constant/ConstantDesc -/
def k18 : Class := { plain "java/lang/constant/ConstantDesc" (some 0) with
  accessFlags := 1537
  interfaces := #[]
  cf := some (fileOf pool18 1 #[] #[] 1537 3 #[] #[])
  fields := #[]
  methods := #[]
  instanceTypes := #[]
  staticTypes := #[]
  resolved := Array.replicate 37 none
  statics := none }

def pool19 : Array CpInfo := pool [(2, .class_ 4), (1, u "java/lang/Object"), (0, u "<init>"), (0, u "()V"), (3, .class_ 12), (1, u "java/lang/String"), (0, u "value"), (0, u "[B"), (2, u "coder"), (0, u "B"), (2, u "hash"), (0, u "I"), (2, u "hashIsZero"), (0, u "Z"), (13, u "COMPACT_STRINGS"), (534, .class_ 576), (0, u "java/lang/CharSequence"), (22, u "CASE_INSENSITIVE_ORDER"), (0, u "Ljava/util/Comparator;"), (500, u "serialPersistentFields"), (0, u "[Ljava/io/ObjectStreamField;"), (0, .class_ 1104), (0, u "java/lang/String$CaseInsensitiveComparator"), (1, .class_ 1107), (0, u "java/io/Serializable"), (0, .class_ 1109), (0, u "java/lang/Comparable"), (0, .class_ 1111), (0, u "java/lang/constant/Constable"), (0, .class_ 1113), (0, u "java/lang/constant/ConstantDesc"), (2, u "serialVersionUID"), (0, u "J"), (3, u "REPL"), (0, u "C"), (2, u "LATIN1"), (1, u "UTF16")] 323

def k19m0 : Method := { name := "<init>", desc := "()V", sig := { parameters := [], returnType := none }, accessFlags := 1, code := none }
/-- java/lang/String -/
def k19 : Class := { plain "java/lang/String" (some 0) with
  accessFlags := 49
  interfaces := #[10, 15, 16, 17, 18]
  cf := some (fileOf pool19 10 #[.nestMembers #[1103]] #[{ accessFlags := 1, nameIndex := 5, descriptorIndex := 6, attributes := #[] }] 49 2 #[1106, 1108, 575, 1110, 1112] #[{ accessFlags := 18, nameIndex := 13, descriptorIndex := 14, attributes := #[] }, { accessFlags := 18, nameIndex := 17, descriptorIndex := 18, attributes := #[] }, { accessFlags := 2, nameIndex := 21, descriptorIndex := 22, attributes := #[] }, { accessFlags := 2, nameIndex := 25, descriptorIndex := 26, attributes := #[] }, { accessFlags := 26, nameIndex := 1116, descriptorIndex := 1117, attributes := #[] }, { accessFlags := 24, nameIndex := 40, descriptorIndex := 26, attributes := #[] }, { accessFlags := 26, nameIndex := 1101, descriptorIndex := 1102, attributes := #[] }, { accessFlags := 26, nameIndex := 1121, descriptorIndex := 1122, attributes := #[] }, { accessFlags := 25, nameIndex := 599, descriptorIndex := 600, attributes := #[] }, { accessFlags := 24, nameIndex := 1125, descriptorIndex := 18, attributes := #[] }, { accessFlags := 24, nameIndex := 1127, descriptorIndex := 18, attributes := #[] }])
  fields := #[{ name := "value", type := (.array .byte), accessFlags := 18, slot := 0, constantValue := 0 }, { name := "coder", type := .byte, accessFlags := 18, slot := 1, constantValue := 0 }, { name := "hash", type := .int, accessFlags := 2, slot := 2, constantValue := 0 }, { name := "hashIsZero", type := .boolean, accessFlags := 2, slot := 3, constantValue := 0 }, { name := "serialVersionUID", type := .long, accessFlags := 26, slot := 0, constantValue := 0 }, { name := "COMPACT_STRINGS", type := .boolean, accessFlags := 24, slot := 1, constantValue := 0 }, { name := "serialPersistentFields", type := (.array (.object "java/io/ObjectStreamField")), accessFlags := 26, slot := 2, constantValue := 0 }, { name := "REPL", type := .char, accessFlags := 26, slot := 3, constantValue := 0 }, { name := "CASE_INSENSITIVE_ORDER", type := (.object "java/util/Comparator"), accessFlags := 25, slot := 4, constantValue := 0 }, { name := "LATIN1", type := .byte, accessFlags := 24, slot := 5, constantValue := 0 }, { name := "UTF16", type := .byte, accessFlags := 24, slot := 6, constantValue := 0 }]
  methods := #[k19m0]
  instanceTypes := #[(.array .byte), .byte, .int, .boolean]
  staticTypes := #[.long, .boolean, (.array (.object "java/io/ObjectStreamField")), .char, (.object "java/util/Comparator"), .byte, .byte]
  resolved := Array.replicate 1451 none
  statics := none }

def pool20 : Array CpInfo := pool [(1, .class_ 2), (0, u "java/lang/Math"), (1, .class_ 6), (1, u "java/lang/Object"), (0, u "<init>"), (0, u "()V"), (89, .class_ 100), (1, u "java/lang/Math$RandomNumberGeneratorHolder"), (71, u "negativeZeroFloatBits"), (0, u "J"), (2, u "negativeZeroDoubleBits"), (21, u "max"), (46, u "$assertionsDisabled"), (0, u "Z"), (88, u "(II)I"), (2, u "twoToTheDoubleScaleDown"), (0, u "D"), (4, u "twoToTheDoubleScaleUp"), (9, u "E"), (3, u "PI"), (2, u "TAU"), (2, u "DEGREES_TO_RADIANS"), (0, u "RADIANS_TO_DEGREES"), (27, u "addExact")] 66

def k20m0 : Method := { name := "<init>", desc := "()V", sig := { parameters := [], returnType := none }, accessFlags := 2, code := none }
def k20c1 : Code := { maxStack := 3, maxLocals := 3, code := jdk_29_method_24_code, exceptionTable := #[], attributes := #[] }
def k20m1 : Method := { name := "addExact", desc := "(II)I", sig := { parameters := [.int, .int], returnType := some .int }, accessFlags := 9, code := some k20c1 }
def k20c2 : Code := { maxStack := 2, maxLocals := 2, code := jdk_29_method_65_code, exceptionTable := #[], attributes := #[] }
def k20m2 : Method := { name := "max", desc := "(II)I", sig := { parameters := [.int, .int], returnType := some .int }, accessFlags := 9, code := some k20c2 }
/-- java/lang/Math -/
def k20 : Class := { plain "java/lang/Math" (some 0) with
  accessFlags := 49
  interfaces := #[]
  cf := some (fileOf pool20 1 #[.nestMembers #[98]] #[{ accessFlags := 2, nameIndex := 7, descriptorIndex := 8, attributes := #[] }, { accessFlags := 9, nameIndex := 393, descriptorIndex := 335, attributes := #[] }, { accessFlags := 9, nameIndex := 198, descriptorIndex := 335, attributes := #[] }] 49 4 #[] #[{ accessFlags := 25, nameIndex := 354, descriptorIndex := 339, attributes := #[] }, { accessFlags := 25, nameIndex := 358, descriptorIndex := 339, attributes := #[] }, { accessFlags := 25, nameIndex := 361, descriptorIndex := 339, attributes := #[] }, { accessFlags := 26, nameIndex := 364, descriptorIndex := 339, attributes := #[] }, { accessFlags := 26, nameIndex := 365, descriptorIndex := 339, attributes := #[] }, { accessFlags := 26, nameIndex := 172, descriptorIndex := 173, attributes := #[] }, { accessFlags := 26, nameIndex := 176, descriptorIndex := 173, attributes := #[] }, { accessFlags := 8, nameIndex := 344, descriptorIndex := 339, attributes := #[] }, { accessFlags := 8, nameIndex := 338, descriptorIndex := 339, attributes := #[] }, { accessFlags := 4120, nameIndex := 245, descriptorIndex := 246, attributes := #[] }])
  fields := #[{ name := "E", type := .double, accessFlags := 25, slot := 0, constantValue := 0 }, { name := "PI", type := .double, accessFlags := 25, slot := 1, constantValue := 0 }, { name := "TAU", type := .double, accessFlags := 25, slot := 2, constantValue := 0 }, { name := "DEGREES_TO_RADIANS", type := .double, accessFlags := 26, slot := 3, constantValue := 0 }, { name := "RADIANS_TO_DEGREES", type := .double, accessFlags := 26, slot := 4, constantValue := 0 }, { name := "negativeZeroFloatBits", type := .long, accessFlags := 26, slot := 5, constantValue := 0 }, { name := "negativeZeroDoubleBits", type := .long, accessFlags := 26, slot := 6, constantValue := 0 }, { name := "twoToTheDoubleScaleUp", type := .double, accessFlags := 8, slot := 7, constantValue := 0 }, { name := "twoToTheDoubleScaleDown", type := .double, accessFlags := 8, slot := 8, constantValue := 0 }, { name := "$assertionsDisabled", type := .boolean, accessFlags := 4120, slot := 9, constantValue := 0 }]
  methods := #[k20m0, k20m1, k20m2]
  instanceTypes := #[]
  staticTypes := #[.double, .double, .double, .double, .double, .long, .long, .double, .double, .boolean]
  resolved := Array.replicate 460 none
  statics := none }

def pool21 : Array CpInfo := pool [(2, .class_ 4), (1, u "java/lang/Object"), (0, u "<init>"), (0, u "()V"), (35, .class_ 44), (1, u "java/util/Objects"), (60, .methodref 106 107), (0, .class_ 108), (0, .nameAndType 109 110), (0, u "jdk/internal/util/Preconditions"), (0, u "checkIndex"), (0, u "(IILjava/util/function/BiFunction;)I"), (60, u "(II)I")] 12

def k21m0 : Method := { name := "<init>", desc := "()V", sig := { parameters := [], returnType := none }, accessFlags := 2, code := none }
def k21c1 : Code := { maxStack := 3, maxLocals := 2, code := jdk_31_method_17_code, exceptionTable := #[], attributes := #[] }
def k21m1 : Method := { name := "checkIndex", desc := "(II)I", sig := { parameters := [.int, .int], returnType := some .int }, accessFlags := 9, code := some k21c1 }
/-- java/util/Objects -/
def k21 : Class := { plain "java/util/Objects" (some 0) with
  accessFlags := 49
  interfaces := #[]
  cf := some (fileOf pool21 42 #[] #[{ accessFlags := 2, nameIndex := 5, descriptorIndex := 6, attributes := #[] }, { accessFlags := 9, nameIndex := 109, descriptorIndex := 171, attributes := #[] }] 49 2 #[] #[])
  fields := #[]
  methods := #[k21m0, k21m1]
  instanceTypes := #[]
  staticTypes := #[]
  resolved := Array.replicate 184 none
  statics := none }

def pool22 : Array CpInfo := pool [(2, .class_ 4), (1, u "java/lang/Object"), (0, u "<init>"), (0, u "()V"), (17, .class_ 26), (1, u "jdk/internal/util/Preconditions"), (6, u "checkIndex"), (21, .class_ 56), (0, u "jdk/internal/util/Preconditions$4"), (57, .class_ 115), (0, u "jdk/internal/util/Preconditions$1"), (7, u "SIOOBE_FORMATTER"), (0, u "Ljava/util/function/BiFunction;"), (0, .class_ 126), (0, u "jdk/internal/util/Preconditions$2"), (3, u "AIOOBE_FORMATTER"), (0, .class_ 132), (0, u "jdk/internal/util/Preconditions$3"), (3, u "IOOBE_FORMATTER"), (41, u "(IILjava/util/function/BiFunction;)I")] 15

def k22m0 : Method := { name := "<init>", desc := "()V", sig := { parameters := [], returnType := none }, accessFlags := 1, code := none }
def k22c1 : Code := { maxStack := 3, maxLocals := 3, code := jdk_41_method_11_code, exceptionTable := #[], attributes := #[] }
def k22m1 : Method := { name := "checkIndex", desc := "(IILjava/util/function/BiFunction;)I", sig := { parameters := [.int, .int, (.object "java/util/function/BiFunction")], returnType := some .int }, accessFlags := 9, code := some k22c1 }
/-- jdk/internal/util/Preconditions -/
def k22 : Class := { plain "jdk/internal/util/Preconditions" (some 0) with
  accessFlags := 33
  interfaces := #[]
  cf := some (fileOf pool22 24 #[.nestMembers #[55, 131, 125, 114]] #[{ accessFlags := 1, nameIndex := 5, descriptorIndex := 6, attributes := #[] }, { accessFlags := 9, nameIndex := 33, descriptorIndex := 178, attributes := #[] }] 33 2 #[] #[{ accessFlags := 25, nameIndex := 123, descriptorIndex := 124, attributes := #[] }, { accessFlags := 25, nameIndex := 130, descriptorIndex := 124, attributes := #[] }, { accessFlags := 25, nameIndex := 136, descriptorIndex := 124, attributes := #[] }])
  fields := #[{ name := "SIOOBE_FORMATTER", type := (.object "java/util/function/BiFunction"), accessFlags := 25, slot := 0, constantValue := 0 }, { name := "AIOOBE_FORMATTER", type := (.object "java/util/function/BiFunction"), accessFlags := 25, slot := 1, constantValue := 0 }, { name := "IOOBE_FORMATTER", type := (.object "java/util/function/BiFunction"), accessFlags := 25, slot := 2, constantValue := 0 }]
  methods := #[k22m0, k22m1]
  instanceTypes := #[]
  staticTypes := #[(.object "java/util/function/BiFunction"), (.object "java/util/function/BiFunction"), (.object "java/util/function/BiFunction")]
  resolved := Array.replicate 194 none
  statics := none }

/-- the primitive byte -/
def k23 : Class := { plain "byte" none with kind := .primitive 'B', accessFlags := 0x411 }
/-- [B -/
def k24 : Class := { plain "[B" (some 0) with kind := .array 23 .byte, interfaces := #[9, 10], accessFlags := 1041 }

/-- the primitive int -/
def k25 : Class := { plain "int" none with kind := .primitive 'I', accessFlags := 0x411 }
/-- [I -/
def k26 : Class := { plain "[I" (some 0) with kind := .array 25 .int, interfaces := #[9, 10], accessFlags := 1041 }

/-- [Ljava/lang/Object; -/
def k27 : Class := { plain "[Ljava/lang/Object;" (some 0) with kind := .array 0 (.object "java/lang/Object"), interfaces := #[9, 10], accessFlags := 1041 }

def heap : Heap := #[{ cls := 11, slots := #[.long 0, .int 0, .ref 1, .ref 2], vm := .statics 11 },
  { cls := 27, slots := #[], vm := .none },
  { cls := 27, slots := #[], vm := .none }]
def classes : Array Class := #[k0, k1, k2, k3, k4, k5, k6, k7, k8, k9, k10, k11, k12, k13, k14, k15, k16, k17, k18, k19, k20, k21, k22, k23, k24, k25, k26, k27]
def interned : List (Array UInt16 × Addr) := []
def slotsUsed : Nat := 4
def theMethod : MethodId := ⟨1, 1⟩
def args0 : Array Value := #[.int 4, .int 3, .int 2, .int 1, .int 5, .int 4]
def aboutOver (below : List Frame) : State where
  vm := { classes := classes, interned := interned.toArray }
  heap := heap
  slotsUsed := slotsUsed
  threads := #[{ frames := .invoking theMethod args0 :: below }]
def below0 : List Frame := [.native { method := ⟨0, 0⟩, args := #[] }]
def about1 : State := aboutOver below0
def p0 : Program := .bare "" "" ""
def e0 : Env := launch0.env 0 0 0
theorem w_frames : about1.frames = Frame.invoking theMethod args0 :: below0 := rfl
set_option maxRecDepth 65536 in
theorem w_args : argsFit about1.vm theMethod args0 = true := by decide +kernel
set_option maxRecDepth 65536 in
theorem w_heap : heapFits about1 = true := by decide +kernel
set_option maxRecDepth 65536 in
theorem w_runnable : about1.curStatus? = some .runnable := by decide +kernel
set_option maxRecDepth 65536 in
theorem w_alone : about1.alone = true := by decide +kernel
set_option maxRecDepth 65536 in
theorem w_named : about1.methodNamed? x = some theMethod := by decide +kernel
set_option maxRecDepth 65536 in
theorem w_hears : about1.hears theMethod below0 = true := by decide +kernel
set_option maxRecDepth 65536 in
theorem w_ripe : about1.ripe theMethod args0 below0 = true := by decide +kernel
theorem w_running : about1.status = .running := rfl
set_option maxRecDepth 65536 in
theorem w_room : about1.hasRoom e0.platform room_1 = true :=
  launch0.hasRoom_least _ room_1 (by decide +kernel) (by decide +kernel) (by decide +kernel) (by decide +kernel) (by decide +kernel) (by decide +kernel)
theorem allAtoms_all (ts : List Jvm.Cond) (a : Array Jvm.Value) (st : Jvm.State) : (allAtoms ts).before a st = ts.all (fun c => c.before a st) := by
  induction ts with
  | nil => rfl
  | cons c t ih =>
    show (Jvm.Cond.and c (allAtoms t)).before a st = _
    rw [Jvm.Cond.before_and, ih, List.all_cons]
def words1 : List Jvm.Cond := Jvm.Cond.code x code maxLocals ret :: tables_1
/-- a 'code' word, met by the world's own term for the bytes: nothing is compared byte by byte -/
theorem code_word {y : MethodName} {bytes : ByteArray} {mx : Nat} {rt : Option FieldType} {a : Array Value} {s : State} {m : MethodId} {meth : Method} {c : Code} (h1 : s.methodNamed? y = some m) (h2 : s.vm.method? m = some meth) (h3 : meth.code = some c) (h4 : c.code = bytes)
    (h5 : (c.maxLocals == mx && c.exceptionTable.isEmpty && decide (c.maxStack ≤ mostOperands) && decide (meth.sig.returnType = rt) && !meth.locks && decide (parseMethodDescriptor y.desc = some meth.sig)) = true) : (Jvm.Cond.code y bytes mx rt).before a s = true := by
  simp only [Bool.and_eq_true, beq_iff_eq, Bool.not_eq_true', decide_eq_true_eq] at h5
  obtain ⟨⟨⟨⟨⟨g1, g2⟩, g3⟩, g4⟩, g5⟩, g6⟩ := h5
  simp [Cond.before, Cond.holds, Cond.value, h1, h2, h3, h4, g1, g2, g3, g4, g5, g6]
def isCode : Jvm.Cond → Bool
  | .code _ _ _ _ => true
  | _ => false
theorem all_split {L : List Jvm.Cond} {P : Jvm.Cond → Bool} (h1 : L.all (fun c => isCode c || P c) = true) (h2 : ∀ c ∈ L.filter isCode, P c = true) : L.all P = true := by
  refine List.all_eq_true.mpr fun c hc => ?_
  have h := List.all_eq_true.mp h1 c hc
  rcases Bool.eq_false_or_eq_true (isCode c) with hi | hi
  · exact h2 c (List.mem_filter.mpr ⟨hc, hi⟩)
  · simpa [hi] using h
set_option maxRecDepth 65536 in
theorem w_c0 : (Jvm.Cond.code x code maxLocals ret).before args0 about1 = true := code_word (m := ⟨1, 1⟩) (meth := k1m1) (c := k1c1) (by decide +kernel) rfl rfl rfl (by decide +kernel)
set_option maxRecDepth 65536 in
theorem w_c1 : (Jvm.Cond.code ({ cls := "java/util/ArrayList", name := "<init>", desc := "()V" } : Jvm.MethodName) jdk_38_method_2_code (1 : Nat) (Option.none : Option Jvm.ClassFile.FieldType)).before args0 about1 = true := code_word (m := ⟨11, 0⟩) (meth := k11m0) (c := k11c0) (by decide +kernel) rfl rfl rfl (by decide +kernel)
set_option maxRecDepth 65536 in
theorem w_c2 : (Jvm.Cond.code ({ cls := "java/util/AbstractList", name := "<init>", desc := "()V" } : Jvm.MethodName) jdk_39_method_1_code (1 : Nat) (Option.none : Option Jvm.ClassFile.FieldType)).before args0 about1 = true := code_word (m := ⟨7, 0⟩) (meth := k7m0) (c := k7c0) (by decide +kernel) rfl rfl rfl (by decide +kernel)
set_option maxRecDepth 65536 in
theorem w_c3 : (Jvm.Cond.code ({ cls := "java/util/AbstractCollection", name := "<init>", desc := "()V" } : Jvm.MethodName) jdk_22_method_1_code (1 : Nat) (Option.none : Option Jvm.ClassFile.FieldType)).before args0 about1 = true := code_word (m := ⟨4, 0⟩) (meth := k4m0) (c := k4c0) (by decide +kernel) rfl rfl rfl (by decide +kernel)
set_option maxRecDepth 65536 in
theorem w_c4 : (Jvm.Cond.code ({ cls := "java/lang/Object", name := "<init>", desc := "()V" } : Jvm.MethodName) object_method_1_code (1 : Nat) (Option.none : Option Jvm.ClassFile.FieldType)).before args0 about1 = true := code_word (m := ⟨0, 0⟩) (meth := k0m0) (c := k0c0) (by decide +kernel) rfl rfl rfl (by decide +kernel)
set_option maxRecDepth 65536 in
theorem w_c5 : (Jvm.Cond.code ({ cls := "com/example/termwright/termwright/DocumentNumbers", name := "<init>", desc := "(Ljava/util/List;)V" } : Jvm.MethodName) prog_33_method_1_code (5 : Nat) (Option.none : Option Jvm.ClassFile.FieldType)).before args0 about1 = true := code_word (m := ⟨12, 0⟩) (meth := k12m0) (c := k12c0) (by decide +kernel) rfl rfl rfl (by decide +kernel)
set_option maxRecDepth 65536 in
theorem w_c6 : (Jvm.Cond.code ({ cls := "java/util/ArrayList", name := "size", desc := "()I" } : Jvm.MethodName) jdk_38_method_8_code (1 : Nat) (Option.some Jvm.ClassFile.FieldType.int)).before args0 about1 = true := code_word (m := ⟨11, 3⟩) (meth := k11m3) (c := k11c3) (by decide +kernel) rfl rfl rfl (by decide +kernel)
set_option maxRecDepth 65536 in
theorem w_c7 : (Jvm.Cond.code ({ cls := "com/example/termwright/termwright/DocumentNumbers", name := "segmentOf", desc := "(I)I" } : Jvm.MethodName) prog_33_method_6_code (5 : Nat) (Option.some Jvm.ClassFile.FieldType.int)).before args0 about1 = true := code_word (m := ⟨12, 1⟩) (meth := k12m1) (c := k12c1) (by decide +kernel) rfl rfl rfl (by decide +kernel)
set_option maxRecDepth 65536 in
theorem w_c8 : (Jvm.Cond.code ({ cls := "com/example/termwright/termwright/Commit$Segment", name := "<init>", desc := "(Ljava/lang/String;IJI)V" } : Jvm.MethodName) prog_28_method_1_code (6 : Nat) (Option.none : Option Jvm.ClassFile.FieldType)).before args0 about1 = true := code_word (m := ⟨14, 0⟩) (meth := k14m0) (c := k14c0) (by decide +kernel) rfl rfl rfl (by decide +kernel)
set_option maxRecDepth 65536 in
theorem w_c9 : (Jvm.Cond.code ({ cls := "com/example/termwright/termwright/Commit$Segment", name := "<init>", desc := "(Ljava/lang/String;IJILcom/example/termwright/termwright/Commit$DeletionsFile;)V" } : Jvm.MethodName) prog_28_method_2_code (7 : Nat) (Option.none : Option Jvm.ClassFile.FieldType)).before args0 about1 = true := code_word (m := ⟨14, 1⟩) (meth := k14m1) (c := k14c1) (by decide +kernel) rfl rfl rfl (by decide +kernel)
set_option maxRecDepth 65536 in
theorem w_c10 : (Jvm.Cond.code ({ cls := "java/lang/Record", name := "<init>", desc := "()V" } : Jvm.MethodName) jdk_30_method_1_code (1 : Nat) (Option.none : Option Jvm.ClassFile.FieldType)).before args0 about1 = true := code_word (m := ⟨13, 0⟩) (meth := k13m0) (c := k13c0) (by decide +kernel) rfl rfl rfl (by decide +kernel)
set_option maxRecDepth 65536 in
theorem w_c11 : (Jvm.Cond.code ({ cls := "java/util/ArrayList", name := "add", desc := "(Ljava/lang/Object;)Z" } : Jvm.MethodName) jdk_38_method_25_code (2 : Nat) (Option.some Jvm.ClassFile.FieldType.boolean)).before args0 about1 = true := code_word (m := ⟨11, 7⟩) (meth := k11m7) (c := k11c7) (by decide +kernel) rfl rfl rfl (by decide +kernel)
set_option maxRecDepth 65536 in
theorem w_c12 : (Jvm.Cond.code ({ cls := "java/util/ArrayList", name := "add", desc := "(Ljava/lang/Object;[Ljava/lang/Object;I)V" } : Jvm.MethodName) jdk_38_method_24_code (4 : Nat) (Option.none : Option Jvm.ClassFile.FieldType)).before args0 about1 = true := code_word (m := ⟨11, 6⟩) (meth := k11m6) (c := k11c6) (by decide +kernel) rfl rfl rfl (by decide +kernel)
set_option maxRecDepth 65536 in
theorem w_c13 : (Jvm.Cond.code ({ cls := "java/util/ArrayList", name := "grow", desc := "()[Ljava/lang/Object;" } : Jvm.MethodName) jdk_38_method_7_code (1 : Nat) (Option.some (Jvm.ClassFile.FieldType.array (Jvm.ClassFile.FieldType.object "java/lang/Object")))).before args0 about1 = true := code_word (m := ⟨11, 2⟩) (meth := k11m2) (c := k11c2) (by decide +kernel) rfl rfl rfl (by decide +kernel)
set_option maxRecDepth 65536 in
theorem w_c14 : (Jvm.Cond.code ({ cls := "java/util/ArrayList", name := "grow", desc := "(I)[Ljava/lang/Object;" } : Jvm.MethodName) jdk_38_method_6_code (4 : Nat) (Option.some (Jvm.ClassFile.FieldType.array (Jvm.ClassFile.FieldType.object "java/lang/Object")))).before args0 about1 = true := code_word (m := ⟨11, 1⟩) (meth := k11m1) (c := k11c1) (by decide +kernel) rfl rfl rfl (by decide +kernel)
set_option maxRecDepth 65536 in
theorem w_c15 : (Jvm.Cond.code ({ cls := "java/lang/Math", name := "max", desc := "(II)I" } : Jvm.MethodName) jdk_29_method_65_code (2 : Nat) (Option.some Jvm.ClassFile.FieldType.int)).before args0 about1 = true := code_word (m := ⟨20, 2⟩) (meth := k20m2) (c := k20c2) (by decide +kernel) rfl rfl rfl (by decide +kernel)
set_option maxRecDepth 65536 in
theorem w_c16 : (Jvm.Cond.code ({ cls := "java/util/ArrayList", name := "get", desc := "(I)Ljava/lang/Object;" } : Jvm.MethodName) jdk_38_method_20_code (2 : Nat) (Option.some (Jvm.ClassFile.FieldType.object "java/lang/Object"))).before args0 about1 = true := code_word (m := ⟨11, 5⟩) (meth := k11m5) (c := k11c5) (by decide +kernel) rfl rfl rfl (by decide +kernel)
set_option maxRecDepth 65536 in
theorem w_c17 : (Jvm.Cond.code ({ cls := "java/util/Objects", name := "checkIndex", desc := "(II)I" } : Jvm.MethodName) jdk_31_method_17_code (2 : Nat) (Option.some Jvm.ClassFile.FieldType.int)).before args0 about1 = true := code_word (m := ⟨21, 1⟩) (meth := k21m1) (c := k21c1) (by decide +kernel) rfl rfl rfl (by decide +kernel)
set_option maxRecDepth 65536 in
theorem w_c18 : (Jvm.Cond.code ({ cls := "jdk/internal/util/Preconditions", name := "checkIndex", desc := "(IILjava/util/function/BiFunction;)I" } : Jvm.MethodName) jdk_41_method_11_code (3 : Nat) (Option.some Jvm.ClassFile.FieldType.int)).before args0 about1 = true := code_word (m := ⟨22, 1⟩) (meth := k22m1) (c := k22c1) (by decide +kernel) rfl rfl rfl (by decide +kernel)
set_option maxRecDepth 65536 in
theorem w_c19 : (Jvm.Cond.code ({ cls := "java/util/ArrayList", name := "elementData", desc := "(I)Ljava/lang/Object;" } : Jvm.MethodName) jdk_38_method_18_code (2 : Nat) (Option.some (Jvm.ClassFile.FieldType.object "java/lang/Object"))).before args0 about1 = true := code_word (m := ⟨11, 4⟩) (meth := k11m4) (c := k11c4) (by decide +kernel) rfl rfl rfl (by decide +kernel)
set_option maxRecDepth 65536 in
theorem w_c20 : (Jvm.Cond.code ({ cls := "com/example/termwright/termwright/Commit$Segment", name := "documentCount", desc := "()I" } : Jvm.MethodName) prog_28_method_11_code (1 : Nat) (Option.some Jvm.ClassFile.FieldType.int)).before args0 about1 = true := code_word (m := ⟨14, 3⟩) (meth := k14m3) (c := k14c3) (by decide +kernel) rfl rfl rfl (by decide +kernel)
set_option maxRecDepth 65536 in
theorem w_c21 : (Jvm.Cond.code ({ cls := "java/lang/Math", name := "addExact", desc := "(II)I" } : Jvm.MethodName) jdk_29_method_24_code (3 : Nat) (Option.some Jvm.ClassFile.FieldType.int)).before args0 about1 = true := code_word (m := ⟨20, 1⟩) (meth := k20m1) (c := k20c1) (by decide +kernel) rfl rfl rfl (by decide +kernel)
set_option maxRecDepth 65536 in
theorem w_c22 : (Jvm.Cond.code ({ cls := "com/example/termwright/termwright/Commit$Segment", name := "deletedCount", desc := "()I" } : Jvm.MethodName) prog_28_method_5_code (1 : Nat) (Option.some Jvm.ClassFile.FieldType.int)).before args0 about1 = true := code_word (m := ⟨14, 2⟩) (meth := k14m2) (c := k14c2) (by decide +kernel) rfl rfl rfl (by decide +kernel)
def codes1 : List Jvm.Cond := [Jvm.Cond.code x code maxLocals ret, Jvm.Cond.code ({ cls := "java/util/ArrayList", name := "<init>", desc := "()V" } : Jvm.MethodName) jdk_38_method_2_code (1 : Nat) (Option.none : Option Jvm.ClassFile.FieldType), Jvm.Cond.code ({ cls := "java/util/AbstractList", name := "<init>", desc := "()V" } : Jvm.MethodName) jdk_39_method_1_code (1 : Nat) (Option.none : Option Jvm.ClassFile.FieldType), Jvm.Cond.code ({ cls := "java/util/AbstractCollection", name := "<init>", desc := "()V" } : Jvm.MethodName) jdk_22_method_1_code (1 : Nat) (Option.none : Option Jvm.ClassFile.FieldType), Jvm.Cond.code ({ cls := "java/lang/Object", name := "<init>", desc := "()V" } : Jvm.MethodName) object_method_1_code (1 : Nat) (Option.none : Option Jvm.ClassFile.FieldType), Jvm.Cond.code ({ cls := "com/example/termwright/termwright/DocumentNumbers", name := "<init>", desc := "(Ljava/util/List;)V" } : Jvm.MethodName) prog_33_method_1_code (5 : Nat) (Option.none : Option Jvm.ClassFile.FieldType), Jvm.Cond.code ({ cls := "java/util/ArrayList", name := "size", desc := "()I" } : Jvm.MethodName) jdk_38_method_8_code (1 : Nat) (Option.some Jvm.ClassFile.FieldType.int), Jvm.Cond.code ({ cls := "com/example/termwright/termwright/DocumentNumbers", name := "segmentOf", desc := "(I)I" } : Jvm.MethodName) prog_33_method_6_code (5 : Nat) (Option.some Jvm.ClassFile.FieldType.int), Jvm.Cond.code ({ cls := "com/example/termwright/termwright/Commit$Segment", name := "<init>", desc := "(Ljava/lang/String;IJI)V" } : Jvm.MethodName) prog_28_method_1_code (6 : Nat) (Option.none : Option Jvm.ClassFile.FieldType), Jvm.Cond.code ({ cls := "com/example/termwright/termwright/Commit$Segment", name := "<init>", desc := "(Ljava/lang/String;IJILcom/example/termwright/termwright/Commit$DeletionsFile;)V" } : Jvm.MethodName) prog_28_method_2_code (7 : Nat) (Option.none : Option Jvm.ClassFile.FieldType), Jvm.Cond.code ({ cls := "java/lang/Record", name := "<init>", desc := "()V" } : Jvm.MethodName) jdk_30_method_1_code (1 : Nat) (Option.none : Option Jvm.ClassFile.FieldType), Jvm.Cond.code ({ cls := "java/util/ArrayList", name := "add", desc := "(Ljava/lang/Object;)Z" } : Jvm.MethodName) jdk_38_method_25_code (2 : Nat) (Option.some Jvm.ClassFile.FieldType.boolean), Jvm.Cond.code ({ cls := "java/util/ArrayList", name := "add", desc := "(Ljava/lang/Object;[Ljava/lang/Object;I)V" } : Jvm.MethodName) jdk_38_method_24_code (4 : Nat) (Option.none : Option Jvm.ClassFile.FieldType), Jvm.Cond.code ({ cls := "java/util/ArrayList", name := "grow", desc := "()[Ljava/lang/Object;" } : Jvm.MethodName) jdk_38_method_7_code (1 : Nat) (Option.some (Jvm.ClassFile.FieldType.array (Jvm.ClassFile.FieldType.object "java/lang/Object"))), Jvm.Cond.code ({ cls := "java/util/ArrayList", name := "grow", desc := "(I)[Ljava/lang/Object;" } : Jvm.MethodName) jdk_38_method_6_code (4 : Nat) (Option.some (Jvm.ClassFile.FieldType.array (Jvm.ClassFile.FieldType.object "java/lang/Object"))), Jvm.Cond.code ({ cls := "java/lang/Math", name := "max", desc := "(II)I" } : Jvm.MethodName) jdk_29_method_65_code (2 : Nat) (Option.some Jvm.ClassFile.FieldType.int), Jvm.Cond.code ({ cls := "java/util/ArrayList", name := "get", desc := "(I)Ljava/lang/Object;" } : Jvm.MethodName) jdk_38_method_20_code (2 : Nat) (Option.some (Jvm.ClassFile.FieldType.object "java/lang/Object")), Jvm.Cond.code ({ cls := "java/util/Objects", name := "checkIndex", desc := "(II)I" } : Jvm.MethodName) jdk_31_method_17_code (2 : Nat) (Option.some Jvm.ClassFile.FieldType.int), Jvm.Cond.code ({ cls := "jdk/internal/util/Preconditions", name := "checkIndex", desc := "(IILjava/util/function/BiFunction;)I" } : Jvm.MethodName) jdk_41_method_11_code (3 : Nat) (Option.some Jvm.ClassFile.FieldType.int), Jvm.Cond.code ({ cls := "java/util/ArrayList", name := "elementData", desc := "(I)Ljava/lang/Object;" } : Jvm.MethodName) jdk_38_method_18_code (2 : Nat) (Option.some (Jvm.ClassFile.FieldType.object "java/lang/Object")), Jvm.Cond.code ({ cls := "com/example/termwright/termwright/Commit$Segment", name := "documentCount", desc := "()I" } : Jvm.MethodName) prog_28_method_11_code (1 : Nat) (Option.some Jvm.ClassFile.FieldType.int), Jvm.Cond.code ({ cls := "java/lang/Math", name := "addExact", desc := "(II)I" } : Jvm.MethodName) jdk_29_method_24_code (3 : Nat) (Option.some Jvm.ClassFile.FieldType.int), Jvm.Cond.code ({ cls := "com/example/termwright/termwright/Commit$Segment", name := "deletedCount", desc := "()I" } : Jvm.MethodName) prog_28_method_5_code (1 : Nat) (Option.some Jvm.ClassFile.FieldType.int)]
set_option maxRecDepth 65536 in
theorem codes_eq : words1.filter isCode = codes1 := rfl
theorem w_codes : ∀ c ∈ words1.filter isCode, c.before args0 about1 = true := by
  rw [codes_eq]
  intro c hc
  simp only [codes1, List.mem_cons, List.not_mem_nil, or_false] at hc
  rcases hc with rfl | rfl | rfl | rfl | rfl | rfl | rfl | rfl | rfl | rfl | rfl | rfl | rfl | rfl | rfl | rfl | rfl | rfl | rfl | rfl | rfl | rfl | rfl
  · exact w_c0
  · exact w_c1
  · exact w_c2
  · exact w_c3
  · exact w_c4
  · exact w_c5
  · exact w_c6
  · exact w_c7
  · exact w_c8
  · exact w_c9
  · exact w_c10
  · exact w_c11
  · exact w_c12
  · exact w_c13
  · exact w_c14
  · exact w_c15
  · exact w_c16
  · exact w_c17
  · exact w_c18
  · exact w_c19
  · exact w_c20
  · exact w_c21
  · exact w_c22
set_option maxRecDepth 65536 in
theorem w_t1 : (words1.take 24).all (fun c => isCode c || c.before args0 about1) = true := by decide +kernel
set_option maxRecDepth 65536 in
theorem w_t2 : ((words1.drop 24).take 24).all (fun c => isCode c || c.before args0 about1) = true := by decide +kernel
set_option maxRecDepth 65536 in
theorem w_t3 : (((words1.drop 24).drop 24).take 24).all (fun c => isCode c || c.before args0 about1) = true := by decide +kernel
set_option maxRecDepth 65536 in
theorem w_t4 : ((((words1.drop 24).drop 24).drop 24).take 24).all (fun c => isCode c || c.before args0 about1) = true := by decide +kernel
set_option maxRecDepth 65536 in
theorem w_t5 : (((((words1.drop 24).drop 24).drop 24).drop 24).take 24).all (fun c => isCode c || c.before args0 about1) = true := by decide +kernel
set_option maxRecDepth 65536 in
theorem w_t6 : ((((((words1.drop 24).drop 24).drop 24).drop 24).drop 24).take 24).all (fun c => isCode c || c.before args0 about1) = true := by decide +kernel
set_option maxRecDepth 65536 in
theorem w_t7 : ((((((words1.drop 24).drop 24).drop 24).drop 24).drop 24).drop 24).all (fun c => isCode c || c.before args0 about1) = true := by decide +kernel
theorem w_tables : (allAtoms (Jvm.Cond.code x code maxLocals ret :: tables_1)).before args0 about1 = true := by
  rw [allAtoms_all]
  show words1.all (fun c => c.before args0 about1) = true
  refine all_split ?_ w_codes
  rw [← List.take_append_drop 24 words1, List.all_append, w_t1, ← List.take_append_drop 24 (words1.drop 24), List.all_append, w_t2, ← List.take_append_drop 24 ((words1.drop 24).drop 24), List.all_append, w_t3, ← List.take_append_drop 24 (((words1.drop 24).drop 24).drop 24), List.all_append, w_t4, ← List.take_append_drop 24 ((((words1.drop 24).drop 24).drop 24).drop 24), List.all_append, w_t5, ← List.take_append_drop 24 (((((words1.drop 24).drop 24).drop 24).drop 24).drop 24), List.all_append, w_t6, w_t7]
  rfl
set_option maxRecDepth 65536 in
theorem w_rest : rest_1_c.before args0 about1 = true := by decide +kernel
set_option maxRecDepth 65536 in
theorem w_case : (Jvm.Cond.and given_1 narrow_1).before args0 about1 = true := by decide +kernel
theorem w_applies : (headSpec (Jvm.Cond.code x code maxLocals ret :: tables_1) room_1).applies x e0.platform about1 = true :=
  (Spec.applies_iff w_frames).mpr ⟨w_running, w_runnable, w_alone, w_named, w_hears, w_ripe, w_room, w_tables⟩
theorem atStart : AtStart classFile x code maxLocals ret World_1 tables_1 room_1 Calls_1 rest_1 Pre_1 launch0 p0 e0 about1 theMethod args0 below0 :=
  ⟨lists_1, trivial, launch0.admits_env _ _ _, launch0.least_env, fairChoices_fair.cas, fairChoices_fair.clock, w_frames, w_args, w_heap, w_applies, trivial, w_rest, w_case⟩
end start1
theorem witness_1 : WitnessClaimed_1 := ⟨start1.p0, start1.e0, start1.about1, start1.theMethod, start1.args0, start1.below0, start1.atStart⟩
end Jvm.Pilot.@@N@@
