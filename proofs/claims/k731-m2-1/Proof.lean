import JvmDerived
import JvmDerived.Pilot.@@N@@Statement
import JvmDerived.Pilot.@@N@@Code
set_option linter.unusedVariables false
set_option linter.unusedSimpArgs false
namespace Jvm.Pilot.@@N@@
open Jvm Jvm.ClassFile Sem Op Lib Jvm.Free Jvm.Stand Jvm.LawKit Jvm.RoadKit Bundle Jvm.Pilot.@@N@@.Jvm.D
/-! my own small laws: arrays by a function of the place; returns -/
def IA (Z : State) (h : Heap) (a : Addr) (ty : FieldType) (n : Nat) (f : Nat → Int32) : Prop :=
  ∃ c : Cell, Arr Z h a c ty ∧ c.slots.size = n ∧ ∀ j, j < n → c.slots[j]? = some (.int (f j)) ∧ fits ty (.int (f j)) = true
def JA (Z : State) (h : Heap) (a : Addr) (n : Nat) (f : Nat → Int64) : Prop :=
  ∃ c : Cell, Arr Z h a c .long ∧ c.slots.size = n ∧ ∀ j, j < n → c.slots[j]? = some (.long (f j))
def upd (f : Nat → Int32) (i : Nat) (v : Int32) : Nat → Int32 := fun j => if j = i then v else f j
def updJ (f : Nat → Int64) (i : Nat) (v : Int64) : Nat → Int64 := fun j => if j = i then v else f j
def QP (r : Value) (h0 : Heap) (n0 : Nat) (v : Option Value) (h : Heap) (L : List Loc) : Prop := v = some r ∧ Fr n0 L ∧ h = h0
def QK (r : Value) (h0 : Heap) (n0 : Nat) (v : Option Value) (h : Heap) (L : List Loc) : Prop := v = some r ∧ Fr n0 L ∧ Keep h0 h []
def QL (n0 : Nat) (v : Option Value) (h : Heap) (L : List Loc) : Prop := v = some (.int 1) ∧ Fr n0 L
section Own
variable {p : Program} {l : Launch} {e : Env} {R : Room} {s : State} {m : MethodId} {args : Array Value} {below : List Frame} {meth : Method} {c : Code} {T : State} {locs : List Loc} {cells slots : Nat} {Z : State} {h h' : Heap} {a b : Addr} {ty : FieldType} {n : Nat} {f : Nat → Int32} {fJ : Nat → Int64} {sl : Nat} {v : Value} {wl : List Addr}
theorem IA.lt (F : IA Z h a ty n f) : a < h.size := by obtain ⟨c, A, -⟩ := F; exact A.lt
theorem IA.ext (F : IA Z h a ty n f) (E : Ext h h') : IA Z h' a ty n f := by obtain ⟨c, A, r⟩ := F; exact ⟨c, A.ext E, r⟩
theorem IA.other (F : IA Z h b ty n f) (W : Wr h h' a sl v) (q : b ≠ a) : IA Z h' b ty n f := by obtain ⟨c, A, r⟩ := F; exact ⟨c, A.other W q, r⟩
theorem IA.keep (F : IA Z h a ty n f) (K : Keep h h' wl) (q : a ∉ wl) : IA Z h' a ty n f := by obtain ⟨c, A, r⟩ := F; exact ⟨c, ⟨K.2.1 a c A.1 q, A.2⟩, r⟩
theorem IA.new {k : ClassId} {z : Int32} (A : Arr Z h a (newA k ty z) ty) (hd : defaultValue ty = .int 0) (hf : fits ty (.int 0) = true) (hz : z.toNatClampNeg = n) : IA Z h a ty n (fun _ => 0) := by
  refine ⟨_, A, by rw [sz_new, hz], fun j hj => ⟨?_, hf⟩⟩
  have : j < z.toNatClampNeg := by rw [hz]; exact hj
  simp [newA, hd, this]
theorem IA.set {c : Cell} (A : Arr Z h a c ty) (S : c.slots.size = n) (H : ∀ j, j < n → c.slots[j]? = some (.int (f j)) ∧ fits ty (.int (f j)) = true) {x : Int32} (hv : fits ty (.int x) = true) {i : Nat} (W : Wr h h' a i (.int x)) (hi : i < n) : IA Z h' a ty n (upd f i x) := by
  refine ⟨_, A.same W, by rw [sz_set, S], fun j hj => ?_⟩
  unfold upd
  by_cases q : j = i
  · subst q; simp [Cell.setSlot, S, hi, hv]
  · have := H j hj
    rw [if_neg q]
    refine ⟨?_, this.2⟩
    rw [← this.1]
    show (c.slots.setIfInBounds i (.int x))[j]? = _
    exact Array.getElem?_setIfInBounds_ne (Ne.symm q)
theorem JA.lt (F : JA Z h a n fJ) : a < h.size := by obtain ⟨c, A, -⟩ := F; exact A.lt
theorem JA.ext (F : JA Z h a n fJ) (E : Ext h h') : JA Z h' a n fJ := by obtain ⟨c, A, r⟩ := F; exact ⟨c, A.ext E, r⟩
theorem JA.other (F : JA Z h b n fJ) (W : Wr h h' a sl v) (q : b ≠ a) : JA Z h' b n fJ := by obtain ⟨c, A, r⟩ := F; exact ⟨c, A.other W q, r⟩
theorem JA.keep (F : JA Z h a n fJ) (K : Keep h h' wl) (q : a ∉ wl) : JA Z h' a n fJ := by obtain ⟨c, A, r⟩ := F; exact ⟨c, ⟨K.2.1 a c A.1 q, A.2⟩, r⟩
theorem JA.new {k : ClassId} {z : Int32} (A : Arr Z h a (newA k .long z) .long) (hz : z.toNatClampNeg = n) : JA Z h a n (fun _ => 0) := by
  refine ⟨_, A, by rw [sz_new, hz], fun j hj => ?_⟩
  have : j < z.toNatClampNeg := by rw [hz]; exact hj
  simp [newA, defaultValue, this]
theorem JA.set {c : Cell} (A : Arr Z h a c .long) (S : c.slots.size = n) (H : ∀ j, j < n → c.slots[j]? = some (.long (fJ j))) {x : Int64} {i : Nat} (W : Wr h h' a i (.long x)) (hi : i < n) : JA Z h' a n (updJ fJ i x) := by
  refine ⟨_, A.same W, by rw [sz_set, S], fun j hj => ?_⟩
  unfold updJ
  by_cases q : j = i
  · subst q; simp [Cell.setSlot, S, hi]
  · rw [if_neg q, ← H j hj]
    show (c.slots.setIfInBounds i (.long x))[j]? = _
    exact Array.getElem?_setIfInBounds_ne (Ne.symm q)
theorem stBA (X : Stand p l e R s m args below meth c T locs cells slots) (hx : p.tables.exec = Jvm.exec) (hZ : Z.Warmed39 s.vm) (eT : T.heap = h) (V : IA Z h a .byte n f) {j x : Int32} (hj : ¬ (j < 0 ∨ n ≤ j.toNatClampNeg)) {g : JFrame} (hg : g.method = m) {rest : List Value} (hs : g.stack = .int x :: .int j :: .ref a :: rest) (hd : decode c.code g.pc = .ok (.bastore, 1)) :
    ∃ T' h', Stand p l e R s m args below meth c T' (locs ++ [⟨a, j.toNatClampNeg⟩]) cells slots ∧ T'.heap = h' ∧ (∃ sl v, Wr h h' a sl v) ∧ IA Z h' a .byte n (upd f j.toNatClampNeg (nar .byte x)) ∧ ∀ target, Steps p.tables e below (T'.setTop { g with pc := g.pc + 1, stack := rest }) target → Steps p.tables e below (T.setTop g) target := by
  obtain ⟨cl, A, S, H⟩ := V
  obtain ⟨T', h', X', e', W, st⟩ := stB X hx hZ eT A (j := j) (x := x) (by rw [S]; exact hj) hg hs hd
  exact ⟨T', h', X', e', ⟨_, _, W⟩, IA.set A S H (fits_nar_byte _) W (Nat.lt_of_not_le fun q => hj (Or.inr q)), st⟩
theorem stIA (X : Stand p l e R s m args below meth c T locs cells slots) (hx : p.tables.exec = Jvm.exec) (hZ : Z.Warmed39 s.vm) (eT : T.heap = h) (V : IA Z h a .int n f) {j x : Int32} (hj : ¬ (j < 0 ∨ n ≤ j.toNatClampNeg)) {g : JFrame} (hg : g.method = m) {rest : List Value} (hs : g.stack = .int x :: .int j :: .ref a :: rest) (hd : decode c.code g.pc = .ok (.iastore, 1)) :
    ∃ T' h', Stand p l e R s m args below meth c T' (locs ++ [⟨a, j.toNatClampNeg⟩]) cells slots ∧ T'.heap = h' ∧ (∃ sl v, Wr h h' a sl v) ∧ IA Z h' a .int n (upd f j.toNatClampNeg x) ∧ ∀ target, Steps p.tables e below (T'.setTop { g with pc := g.pc + 1, stack := rest }) target → Steps p.tables e below (T.setTop g) target := by
  obtain ⟨cl, A, S, H⟩ := V
  obtain ⟨T', h', X', e', W, st⟩ := stI X hx hZ eT A (j := j) (x := x) (by rw [S]; exact hj) hg hs hd
  exact ⟨T', h', X', e', ⟨_, _, W⟩, IA.set A S H rfl W (Nat.lt_of_not_le fun q => hj (Or.inr q)), st⟩
theorem stJA (X : Stand p l e R s m args below meth c T locs cells slots) (hx : p.tables.exec = Jvm.exec) (hZ : Z.Warmed39 s.vm) (eT : T.heap = h) (V : JA Z h a n fJ) {j : Int32} {x : Int64} (hj : ¬ (j < 0 ∨ n ≤ j.toNatClampNeg)) {g : JFrame} (hg : g.method = m) {rest : List Value} (hs : g.stack = .long x :: .int j :: .ref a :: rest) (hd : decode c.code g.pc = .ok (.lastore, 1)) :
    ∃ T' h', Stand p l e R s m args below meth c T' (locs ++ [⟨a, j.toNatClampNeg⟩]) cells slots ∧ T'.heap = h' ∧ (∃ sl v, Wr h h' a sl v) ∧ JA Z h' a n (updJ fJ j.toNatClampNeg x) ∧ ∀ target, Steps p.tables e below (T'.setTop { g with pc := g.pc + 1, stack := rest }) target → Steps p.tables e below (T.setTop g) target := by
  obtain ⟨cl, A, S, H⟩ := V
  obtain ⟨T', h', X', e', W, st⟩ := stJ X hx hZ eT A (j := j) (x := x) (by rw [S]; exact hj) hg hs hd
  exact ⟨T', h', X', e', ⟨_, _, W⟩, JA.set A S H W (Nat.lt_of_not_le fun q => hj (Or.inr q)), st⟩
theorem ldBA (X : Stand p l e R s m args below meth c T locs cells slots) (hx : p.tables.exec = Jvm.exec) (hZ : Z.Warmed39 s.vm) (eT : T.heap = h) (V : IA Z h a .byte n f) {j : Int32} (hj : ¬ (j < 0 ∨ n ≤ j.toNatClampNeg)) {g : JFrame} (hg : g.method = m) {rest : List Value} (hs : g.stack = .int j :: .ref a :: rest) (hd : decode c.code g.pc = .ok (.baload, 1)) :
    ∀ target, Steps p.tables e below (T.setTop { g with pc := g.pc + 1, stack := .int (f j.toNatClampNeg) :: rest }) target → Steps p.tables e below (T.setTop g) target := by
  obtain ⟨cl, A, S, H⟩ := V
  exact X.baloadBytes hx (by rw [eT]; exact A.1) (State.isArrayOf_alike hZ.alike A.2.1) A.2.2 (by rw [S]; exact hj) (H _ (Nat.lt_of_not_le fun q => hj (Or.inr q))).1 hg hs hd
theorem ldIA (X : Stand p l e R s m args below meth c T locs cells slots) (hx : p.tables.exec = Jvm.exec) (hZ : Z.Warmed39 s.vm) (eT : T.heap = h) (V : IA Z h a .int n f) {j : Int32} (hj : ¬ (j < 0 ∨ n ≤ j.toNatClampNeg)) {g : JFrame} (hg : g.method = m) {rest : List Value} (hs : g.stack = .int j :: .ref a :: rest) (hd : decode c.code g.pc = .ok (.iaload, 1)) :
    ∀ target, Steps p.tables e below (T.setTop { g with pc := g.pc + 1, stack := .int (f j.toNatClampNeg) :: rest }) target → Steps p.tables e below (T.setTop g) target := by
  obtain ⟨cl, A, S, H⟩ := V
  exact X.iaload hx (by rw [eT]; exact A.1) (State.isArrayOf_alike hZ.alike A.2.1) A.2.2 (by rw [S]; exact hj) (H _ (Nat.lt_of_not_le fun q => hj (Or.inr q))).1 hg hs hd
theorem ldJA (X : Stand p l e R s m args below meth c T locs cells slots) (hx : p.tables.exec = Jvm.exec) (hZ : Z.Warmed39 s.vm) (eT : T.heap = h) (V : JA Z h a n fJ) {j : Int32} (hj : ¬ (j < 0 ∨ n ≤ j.toNatClampNeg)) {g : JFrame} (hg : g.method = m) {rest : List Value} (hs : g.stack = .int j :: .ref a :: rest) (hd : decode c.code g.pc = .ok (.laload, 1)) :
    ∀ target, Steps p.tables e below (T.setTop { g with pc := g.pc + 1, stack := .long (fJ j.toNatClampNeg) :: rest }) target → Steps p.tables e below (T.setTop g) target := by
  obtain ⟨cl, A, S, H⟩ := V
  exact X.laload hx (by rw [eT]; exact A.1) (State.isArrayOf_alike hZ.alike A.2.1) A.2.2 (by rw [S]; exact hj) (H _ (Nat.lt_of_not_le fun q => hj (Or.inr q))) hg hs hd
theorem lnIA (X : Stand p l e R s m args below meth c T locs cells slots) (hx : p.tables.exec = Jvm.exec) (hZ : Z.Warmed39 s.vm) (eT : T.heap = h) (V : IA Z h a ty n f) {z : Int32} (hz : n.toInt32 = z) {g : JFrame} (hg : g.method = m) {rest : List Value} (hs : g.stack = .ref a :: rest) (hd : decode c.code g.pc = .ok (.arraylength, 1)) :
    ∀ target, Steps p.tables e below (T.setTop { g with pc := g.pc + 1, stack := .int z :: rest }) target → Steps p.tables e below (T.setTop g) target := by
  obtain ⟨cl, A, S, H⟩ := V
  intro t k
  refine X.arraylength hx (by rw [eT]; exact A.1) (State.isArrayOf_alike hZ.alike A.2.1) hg hs hd t ?_
  rw [S, hz]; exact k
theorem lnJA (X : Stand p l e R s m args below meth c T locs cells slots) (hx : p.tables.exec = Jvm.exec) (hZ : Z.Warmed39 s.vm) (eT : T.heap = h) (V : JA Z h a n fJ) {z : Int32} (hz : n.toInt32 = z) {g : JFrame} (hg : g.method = m) {rest : List Value} (hs : g.stack = .ref a :: rest) (hd : decode c.code g.pc = .ok (.arraylength, 1)) :
    ∀ target, Steps p.tables e below (T.setTop { g with pc := g.pc + 1, stack := .int z :: rest }) target → Steps p.tables e below (T.setTop g) target := by
  obtain ⟨cl, A, S, H⟩ := V
  intro t k
  refine X.arraylength hx (by rw [eT]; exact A.1) (State.isArrayOf_alike hZ.alike A.2.1) hg hs hd t ?_
  rw [S, hz]; exact k
theorem retI (X : Stand p l e R s m args below meth c T locs cells slots) (hx : p.tables.exec = Jvm.exec) {pc : Nat} {Ls : Array Slot} {z : Int32} {rest : List Value} (hret : meth.sig.returnType = some .int) (hd : decode c.code pc = .ok (.ireturn, 1)) {fs : List Frame}
    (hl : ∀ (f : JFrame) (acts : List Action), f.method = m → f.locked = none → f.entered = [] → (doReturn e (T.setTop f) acts (some (.int z))).1 = T.setFrames fs) : Steps p.tables e below (T.setTop (mkF m pc Ls (.int z :: rest))) (T.setFrames fs) :=
  retOut X hx hret rfl (Or.inl ⟨rfl, Or.inl rfl, z, rfl⟩) hd hl
end Own
/-! numbers -/
theorem own_small {v : Int32} (n : Nat) (h0 : 0 ≤ v.toInt) (h1 : v.toInt < n) : ∃ k : Fin n, v = Int32.ofNat k.val := by
  refine ⟨⟨v.toInt.toNat, by omega⟩, ?_⟩
  apply Int32.toInt_inj.mp
  have := v.toInt_lt
  show v.toInt = (Int32.ofNat v.toInt.toNat).toInt
  rw [Int32.toInt_ofNat_of_lt (by omega)]
  omega
theorem own_mask31 (x : Int32) : 0 ≤ (x &&& (2147483647 : Int32)).toInt ∧ (x &&& (2147483647 : Int32)).toInt = x.toInt % 2147483648 := by
  have h : (x &&& (2147483647 : Int32)).toInt = x.toInt % (2 ^ 31 : Nat) := c_mask x 2147483647 31 (by decide) (by decide)
  omega
theorem own_mod (x : Int32) (d : Int32) (n : Nat) (hd : d.toInt = n) (hn : 0 < n) : ∃ k : Fin n, (x &&& (2147483647 : Int32)) % d = Int32.ofNat k.val := by
  apply own_small
  · rw [Int32.toInt_mod]; exact Int.tmod_nonneg _ (own_mask31 x).1
  · rw [Int32.toInt_mod, hd]; exact Int.tmod_lt_of_pos _ (by omega)
theorem own_ofNat_toInt {n : Nat} (h : n < 2147483648) : (Int32.ofNat n).toInt = n := Int32.toInt_ofNat_of_lt (by omega)
theorem own_ofNat_lt {a b : Nat} (ha : a < 2147483648) (hb : b < 2147483648) : Int32.ofNat a < Int32.ofNat b ↔ a < b := by
  rw [Int32.lt_iff_toInt_lt, own_ofNat_toInt ha, own_ofNat_toInt hb]; omega
theorem own_ofNat_nat {n : Nat} (h : n < 2147483648) : (Int32.ofNat n).toNatClampNeg = n := by
  show (Int32.ofNat n).toInt.toNat = n
  rw [own_ofNat_toInt h]; omega
theorem own_ofNat_in {n len : Nat} (h : n < len) (hl : len ≤ 2147483648) : ¬ (Int32.ofNat n < 0 ∨ len ≤ (Int32.ofNat n).toNatClampNeg) := by
  rw [own_ofNat_nat (by omega), Int32.lt_iff_toInt_lt, own_ofNat_toInt (by omega)]
  have e : (0 : Int32).toInt = 0 := by decide
  rw [e]; omega
theorem own_ofNat_succ (n : Nat) : Int32.ofNat n + 1 = Int32.ofNat (n + 1) := by rw [Int32.ofNat_add]; rfl
/-! arrays by a function: as the library's lists, copied by System.arraycopy, cloned -/
section Own2
variable {p : Program} {l : Launch} {e : Env} {R : Room} {s : State} {m : MethodId} {args : Array Value} {below : List Frame} {meth : Method} {c : Code} {T : State} {locs : List Loc} {cells slots : Nat} {Z : State} {h h' : Heap} {a b : Addr} {ty : FieldType} {n : Nat} {f : Nat → Int32}
theorem IA.mono {n' : Nat} {g : Nat → Int32} (F : IA Z h a ty n f) (e : n' = n) (q : ∀ j, j < n' → g j = f j) : IA Z h a ty n' g := by
  subst e
  obtain ⟨c, A, S, H⟩ := F
  exact ⟨c, A, S, fun j hj => by rw [q j hj]; exact H j hj⟩
theorem own_getD (f : Nat → Int32) (n j : Nat) (h : j < n) (d : Value) : ((List.range n).map fun j => Value.int (f j)).getD j d = .int (f j) := by
  simp [List.getD_eq_getElem?_getD, h]
theorem IA.arv (F : IA Z h a ty n f) (hn : n < 2147483648) : ∃ k, Arv Z h a k ty (Int32.ofNat n) ((List.range n).map fun j => Value.int (f j)) (.int 0) := by
  obtain ⟨c, A, S, H⟩ := F
  have e : (Int32.ofNat n).toNatClampNeg = n := own_ofNat_nat hn
  have z : ¬ Int32.ofNat n < 0 := by
    rw [Int32.lt_iff_toInt_lt, own_ofNat_toInt hn]; have : (0 : Int32).toInt = 0 := by decide
    omega
  refine ⟨c.cls, c, A, rfl, by rw [e, S], z, fun j hj => ?_, fun j hj => ?_⟩
  · rw [S] at hj; rw [own_getD f n j hj]; exact (H j hj).1
  · rw [S] at hj; rw [own_getD f n j hj]; exact (H j hj).2
theorem IA.of_arv {k : ClassId} {vs : List Value} {dv : Value} (F : Arv Z h a k ty (Int32.ofNat n) vs dv) (hn : n < 2147483648) (H : ∀ j, j < n → vs.getD j dv = .int (f j)) : IA Z h a ty n f := by
  obtain ⟨c, A, -, S, -, V, G⟩ := F
  rw [own_ofNat_nat hn] at S
  refine ⟨c, A, S, fun j hj => ⟨?_, ?_⟩⟩
  · rw [V j (by omega), H j hj]
  · have := G j (by omega); rw [H j hj] at this; exact this
theorem cpIA (X : Stand p l e R s m args below meth c T locs cells slots) (hx : p.tables.exec = Jvm.exec) (hZ : Z.Warmed39 s.vm) {a0 : Array Value} {own : String} {index : Nat} (hown : s.vm.findClass own = some m.cls)
    (w1 : (Cond.methodLink own index Jvm.Stand.acN).before a0 Z = true) (w2 : (Cond.native Jvm.Stand.acN).before a0 Z = true) (w3 : (Cond.static Jvm.Stand.acN).before a0 Z = true) (w4 : (Cond.initialized "java/lang/System").before a0 Z = true) (eT : T.heap = h)
    {n' : Nat} {f' : Nat → Int32} (A : IA Z h a ty n f) (B : IA Z h b ty n' f') (hty : refKind ty = false) (hn : n < 2147483648) (hn' : n' < 2147483648) {k : Nat} {nn : Int32} (hk : nn = Int32.ofNat k) (h4 : k ≤ n) (h5 : k ≤ n') {n0 : Nat} (N : Fr n0 locs) (ge : n0 ≤ b)
    {g : JFrame} (hg : g.method = m) (hsize : g.locals.size = c.maxLocals) {rest : List Value} (hs : g.stack = .int nn :: .int 0 :: .ref b :: .int 0 :: .ref a :: rest) (hd : decode c.code g.pc = .ok (.invokestatic index, 3))
    (hf : 1 ≤ R.frames) {W : Nat} (hW : 2 * g.monitorRoom + (rest.map fun v => v.category).sum ≤ W) (hlo : W + (nativeFrameWords "java/lang/System" "arraycopy" 5 + 11) ≤ R.locals) :
    ∃ T' h' L, Stand p l e R s m args below meth c T' L cells slots ∧ T'.heap = h' ∧ Fr n0 L ∧ Keep h h' [b] ∧ IA Z h' b ty n' (fun j => if j < k then f j else f' j) ∧
      ∀ target, Steps p.tables e below (T'.setTop { g with pc := g.pc + 3, stack := rest }) target → Steps p.tables e below (T.setTop g) target := by
  obtain ⟨ka, VA⟩ := A.arv hn
  obtain ⟨kb, VB⟩ := B.arv hn'
  have ek : nn.toNatClampNeg = k := by rw [hk]; exact own_ofNat_nat (by omega)
  have e0 : (0 : Int32).toNatClampNeg = 0 := by decide
  have nk : ¬ nn < 0 := by
    rw [hk, Int32.lt_iff_toInt_lt, own_ofNat_toInt (by omega)]; have : (0 : Int32).toInt = 0 := by decide
    omega
  obtain ⟨T', h', L, X', e', N', K, V, st⟩ := cpA X hx hZ hown w1 w2 w3 w4 eT VA VB (Or.inl ⟨rfl, hty⟩) (sp := 0) (dp := 0) (nn := nn) (by decide) (by decide) nk (by rw [ek, e0, own_ofNat_nat hn]; omega) (by rw [ek, e0, own_ofNat_nat hn']; omega) rfl (by rw [ek, e0]; simp; omega) N ge hg hsize hs hd hf hW hlo
  refine ⟨T', h', L, X', e', N', K, IA.of_arv V hn' fun j hj => ?_, st⟩
  rw [ek, e0]
  simp only [List.take_zero, List.nil_append, Nat.zero_add]
  by_cases q : j < k
  · have hj' : j < n := by omega
    rw [if_pos q, List.getD_eq_getElem?_getD, List.getElem?_append_left (by simpa using q)]
    simp [q, hj']
  · rw [if_neg q, List.getD_eq_getElem?_getD, List.getElem?_append_right (by simpa using q)]
    have e1 : k + (j - k) = j := by omega
    simp [e1, hj]
theorem clIA (X : Stand p l e R s m args below meth c T locs cells slots) (hx : p.tables.exec = Jvm.exec) (hZ : Z.Warmed39 s.vm) {a0 : Array Value} {own ad : String} {index : Nat} (hown : s.vm.findClass own = some m.cls)
    (w1 : (Cond.methodLink own index ⟨ad, "clone", "()Ljava/lang/Object;"⟩).before a0 Z = true) (w2 : (Cond.sameMethod ad "java/lang/Object" "clone" "()Ljava/lang/Object;").before a0 Z = true) (w3 : (Cond.native ⟨"java/lang/Object", "clone", "()Ljava/lang/Object;"⟩).before a0 Z = true)
    (w4 : (Cond.instanceMethod ⟨"java/lang/Object", "clone", "()Ljava/lang/Object;"⟩).before a0 Z = true) (w5 : (Cond.selects ad ⟨ad, "clone", "()Ljava/lang/Object;"⟩ ⟨"java/lang/Object", "clone", "()Ljava/lang/Object;"⟩).before a0 Z = true) (w6 : (Cond.castable ad "java/lang/Cloneable").before a0 Z = true)
    (eT : T.heap = h) (F : IA Z h a ty n f) (hn : n < 2147483648) (E : Exa Z h a ad) {g : JFrame} (hg : g.method = m) (hsize : g.locals.size = c.maxLocals) {rest : List Value} (hst : g.stack = .ref a :: rest) (hd : decode c.code g.pc = .ok (.invokevirtual index, 3))
    (hf : 1 ≤ R.frames) {W cap : Nat} (hW : 2 * g.monitorRoom + (rest.map fun v => v.category).sum ≤ W) (hl : W + 14 ≤ R.locals) (hcap : n ≤ cap) (hc : cells + 1 ≤ R.cells) (hsl : slots + cap ≤ R.slots) :
    ∃ T' h', Stand p l e R s m args below meth c T' locs (cells + 1) (slots + cap) ∧ T'.heap = h' ∧ Ext h h' ∧ IA Z h' h.size ty n f ∧ Exa Z h' h.size ad ∧
      ∀ target, Steps p.tables e below (T'.setTop { g with pc := g.pc + 3, stack := .ref h.size :: rest }) target → Steps p.tables e below (T.setTop g) target := by
  obtain ⟨k, V⟩ := F.arv hn
  obtain ⟨T', h', X', e', Ex, V', E', st⟩ := cloneH X hx hZ hown w1 w2 w3 w4 w5 w6 eT V.arh E hg hsize hst hd hf hW hl (by rw [own_ofNat_nat hn]; exact hcap) hc hsl
  refine ⟨T', h', X', e', Ex, ?_, E', st⟩
  have V2 : Arv Z h' h.size k ty (Int32.ofNat n) ((List.range n).map fun j => Value.int (f j)) (.int 0) := V'
  exact IA.of_arv V2 hn fun j hj => own_getD f n j hj _
end Own2
/-- a private method selects itself -/
theorem own_selp {Z s : State} {a0 args : Array Value} {y : MethodName} {n : Nat} (hZ : Z.Warmed39 s.vm) (wi : (Cond.instantiable y.cls n).before a0 Z = true) (wm : (Cond.instanceMethod y).before a0 Z = true) (wp : (Cond.privateMethod y).before a0 Z = true) (hy : y.cls ≠ "java/lang/invoke/MethodHandle" ∧ y.cls ≠ "java/lang/invoke/VarHandle") : (Cond.selects y.cls y y).before args s = true := by
  obtain ⟨c, k, h1, h2, h3, h4, -, -⟩ := Cond.instantiable_spec (mv (args := args) hZ wi)
  rw [Bool.or_eq_false_iff] at h4
  exact selects_self_of_private h1 h2 h4.1 (Cond.privateMethod_at (mvP (args := args) hZ wp)) (mv hZ wm) hy
def idx (q : Int64) : Nat := (q.toInt32 &&& (1023 : Int32)).toNatClampNeg
def slotEnd (fD : Nat → Int32) (fH : Nat → Int64) (q : Int64) : Nat → Nat → Nat → Prop
  | 0, i, r => r = i ∧ i < 1024 ∧ (fD i = 0 ∨ fH i = q)
  | k + 1, i, r => i < 1024 ∧ ¬ fD i = 0 ∧ ¬ fH i = q ∧ slotEnd fD fH q k ((i + 1) % 1024) r
theorem slotEnd.lt {fD : Nat → Int32} {fH : Nat → Int64} {q : Int64} : ∀ (k i r : Nat), slotEnd fD fH q k i r → i < 1024 ∧ r < 1024 := by
  intro k
  induction k with
  | zero => intro i r h; obtain ⟨rfl, h, -⟩ := h; exact ⟨h, h⟩
  | succ k ih => intro i r h; exact ⟨h.1, (ih _ _ h.2.2.2).2⟩
theorem own_1023 (x : Int32) : ∃ i : Nat, (x &&& (1023 : Int32)) = Int32.ofNat i ∧ i < 1024 ∧ (x &&& (1023 : Int32)).toNatClampNeg = i := by
  have h : (x &&& (1023 : Int32)).toInt = x.toInt % (2 ^ 10 : Nat) := c_mask x 1023 10 (by decide) (by decide)
  obtain ⟨k, hk⟩ := own_small (v := x &&& (1023 : Int32)) 1024 (by omega) (by omega)
  exact ⟨k.val, hk, k.isLt, by rw [hk]; exact own_ofNat_nat (by have := k.isLt; omega)⟩
theorem own_idx_lt (q : Int64) : idx q < 1024 := by obtain ⟨i, -, h, e⟩ := own_1023 q.toInt32; unfold idx; omega
theorem own_idx_eq (q : Int64) : (q.toInt32 &&& (1023 : Int32)) = Int32.ofNat (idx q) := by obtain ⟨i, h, -, e⟩ := own_1023 q.toInt32; unfold idx; rw [e]; exact h
theorem own_wrap {i : Nat} (h : i < 1024) : ((Int32.ofNat i + 1) &&& (1023 : Int32)) = Int32.ofNat ((i + 1) % 1024) := by
  rw [own_ofNat_succ]
  apply Int32.toInt_inj.mp
  have e : (Int32.ofNat (i + 1) &&& (1023 : Int32)).toInt = (Int32.ofNat (i + 1)).toInt % (2 ^ 10 : Nat) := c_mask _ 1023 10 (by decide) (by decide)
  rw [e, own_ofNat_toInt (by omega), own_ofNat_toInt (by omega)]
  omega
def isChain (fN : Nat → Int32) : Int32 → List Nat → Prop
  | e, [] => e = 0
  | e, j :: js => e = Int32.ofNat (j + 1) ∧ j < 1024 ∧ isChain fN (fN j) js
def coll (fE : Nat → Int32) (b : Int32) : List Nat → List Int32
  | [] => []
  | j :: js => if fE j < b then fE j :: coll fE b js else coll fE b js
theorem own_coll (fE : Nat → Int32) (b : Int32) : ∀ es : List Nat, (coll fE b es).length ≤ es.length := by
  intro es
  induction es with
  | nil => exact Nat.le_refl _
  | cons j js ih => simp only [coll]; split <;> simp <;> omega
theorem own_ne0 {n : Nat} (h : n < 5000) : ¬ Int32.ofNat (n + 1) = (0 : Int32) := by
  intro q; have := congrArg Int32.toNatClampNeg q; rw [own_ofNat_nat (by omega)] at this
  have e : (0 : Int32).toNatClampNeg = 0 := by decide
  omega
theorem own_pred (n : Nat) : Int32.ofNat (n + 1) - (1 : Int32) = Int32.ofNat n := by rw [← own_ofNat_succ]; grind
theorem own_ne16' {n : Nat} (h : n < 16) : ¬ Int32.ofNat n = (16 : Int32) := by
  intro q; have := congrArg Int32.toNatClampNeg q; rw [own_ofNat_nat (by omega)] at this
  have e : (16 : Int32).toNatClampNeg = 16 := by decide
  omega
theorem own_ne16 {p1 : Int32} {n : Nat} (hp1 : p1 = Int32.ofNat n) (hn : n < 16) : ¬ p1 = (16 : Int32) := by rw [hp1]; exact own_ne16' hn
theorem own_nn {p1 : Int32} {n : Nat} (hp1 : p1 = Int32.ofNat n) (hn : n < 16) : ¬ p1 < 0 := by
  rw [hp1, Int32.lt_iff_toInt_lt, own_ofNat_toInt (by omega)]; have : (0 : Int32).toInt = 0 := by decide
  omega
theorem own_len {p1 : Int32} {n : Nat} (hp1 : p1 = Int32.ofNat n) (hn : n < 16) : p1.toNatClampNeg = n := by rw [hp1]; exact own_ofNat_nat (by omega)
theorem own_acc {acc : List Int32} {fr fr' : Nat → Int32} {fE : Nat → Int32} {jj : Nat} {x : Int32} (hac : ∀ j, j < acc.length → fr j = acc.getD j 0) (h : fr' = upd fr (Int32.ofNat acc.length).toNatClampNeg (fE x.toNatClampNeg)) (hix : x.toNatClampNeg = jj) (hl : acc.length < 5000 := by omega) : ∀ j, j < (acc ++ [fE jj]).length → fr' j = (acc ++ [fE jj]).getD j 0 := by
  intro j hj
  rw [List.length_append] at hj
  rw [h, own_ofNat_nat (by omega), hix]
  unfold upd
  by_cases q : j = acc.length
  · rw [if_pos q, q]; simp [List.getD_eq_getElem?_getD]
  · rw [if_neg q]
    have hj2 : j < acc.length := by simp at hj; omega
    rw [hac j hj2]; simp [List.getD_eq_getElem?_getD, List.getElem?_append_left hj2]
def QN (Z : State) (r0 : Addr) (h0 : Heap) (n0 : Nat) (v : Option Value) (h : Heap) (L : List Loc) : Prop := ∃ bH bD bE bN : Addr, v = none ∧ Fr n0 L ∧ Keep h0 h [r0] ∧ Exa Z h r0 "com/example/auditspur/auditspur/core/store/Postings" ∧ Fld Z h r0 "com/example/auditspur/auditspur/core/store/Postings" "hashes" "[J" (.ref bH) ∧ Fld Z h r0 "com/example/auditspur/auditspur/core/store/Postings" "heads" "[I" (.ref bD) ∧ Fld Z h r0 "com/example/auditspur/auditspur/core/store/Postings" "events" "[I" (.ref bE) ∧ Fld Z h r0 "com/example/auditspur/auditspur/core/store/Postings" "next" "[I" (.ref bN) ∧ JA Z h bH 1024 (fun _ => 0) ∧ IA Z h bD .int 1024 (fun _ => 0) ∧ IA Z h bE .int 1024 (fun _ => 0) ∧ IA Z h bN .int 1024 (fun _ => 0) ∧ Fld Z h r0 "com/example/auditspur/auditspur/core/store/Postings" "codes" "I" (.int 0) ∧ Fld Z h r0 "com/example/auditspur/auditspur/core/store/Postings" "postings" "I" (.int 0) ∧ h0.size ≤ bH ∧ h0.size ≤ bD ∧ h0.size ≤ bE ∧ h0.size ≤ bN ∧ r0 ≠ bH ∧ r0 ≠ bD ∧ r0 ≠ bE ∧ r0 ≠ bN ∧ bH ≠ bD ∧ bH ≠ bE ∧ bH ≠ bN ∧ bD ≠ bE ∧ bD ≠ bN ∧ bE ≠ bN
def QA (Z : State) (r0 bH bD bE bN : Addr) (q1 : Int64) (p2 : Int32) (fH : Nat → Int64) (fD fE fN : Nat → Int32) (wc wp : Int32) (np r : Nat) (h0 : Heap) (n0 : Nat) (v : Option Value) (h : Heap) (L : List Loc) : Prop := v = none ∧ Fr n0 L ∧ Keep h0 h [r0, bH, bD, bE, bN] ∧ Exa Z h r0 "com/example/auditspur/auditspur/core/store/Postings" ∧ Fld Z h r0 "com/example/auditspur/auditspur/core/store/Postings" "hashes" "[J" (.ref bH) ∧ Fld Z h r0 "com/example/auditspur/auditspur/core/store/Postings" "heads" "[I" (.ref bD) ∧ Fld Z h r0 "com/example/auditspur/auditspur/core/store/Postings" "events" "[I" (.ref bE) ∧ Fld Z h r0 "com/example/auditspur/auditspur/core/store/Postings" "next" "[I" (.ref bN) ∧ JA Z h bH 1024 (if fD r = 0 then updJ fH r q1 else fH) ∧ IA Z h bD .int 1024 (upd fD r (wp + 1)) ∧ IA Z h bE .int 1024 (upd fE np p2) ∧ IA Z h bN .int 1024 (upd fN np (fD r)) ∧ Fld Z h r0 "com/example/auditspur/auditspur/core/store/Postings" "codes" "I" (.int (if fD r = 0 then wc + 1 else wc)) ∧ Fld Z h r0 "com/example/auditspur/auditspur/core/store/Postings" "postings" "I" (.int (wp + 1))
def QC (Z : State) (n : Nat) (fa : Nat → Int32) (h0 : Heap) (n0 : Nat) (v : Option Value) (h : Heap) (L : List Loc) : Prop := ∃ b : Addr, v = some (.ref b) ∧ Fr n0 L ∧ Keep h0 h [] ∧ h0.size ≤ b ∧ IA Z h b .int n fa
def QE (Z : State) (xs : List Int32) (h0 : Heap) (n0 : Nat) (v : Option Value) (h : Heap) (L : List Loc) : Prop := ∃ b : Addr, v = some (.ref b) ∧ Fr n0 L ∧ Keep h0 h [] ∧ h0.size ≤ b ∧ IA Z h b .int xs.length (fun j => xs.getD j 0)
theorem min_d0 : decode jdk_29_method_69_code 0 = .ok (.iload_n 0, 1) := by decide +kernel
theorem min_d1 : decode jdk_29_method_69_code 1 = .ok (.iload_n 1, 1) := by decide +kernel
theorem min_d2 : decode jdk_29_method_69_code 2 = .ok (.if_icmp .gt 7, 3) := by decide +kernel
theorem min_d5 : decode jdk_29_method_69_code 5 = .ok (.iload_n 0, 1) := by decide +kernel
theorem min_d6 : decode jdk_29_method_69_code 6 = .ok (.goto 4, 3) := by decide +kernel
theorem min_d9 : decode jdk_29_method_69_code 9 = .ok (.iload_n 1, 1) := by decide +kernel
theorem min_d10 : decode jdk_29_method_69_code 10 = .ok (.ireturn, 1) := by decide +kernel
theorem min_ef (m : MethodId) (x0 : Int32) (x1 : Int32) : entryFrame m #[(.int x0), (.int x1)] 2 = mkF m 0 #[.val (.int x0), .val (.int x1)] [] := by first | (simp [entryFrame, mkF, argsToLocals, Value.category]; done) | rfl
def fMin (p0 : Int32) (p1 : Int32) : Int32 :=
  let j10_s0 : Int32 := (if p1 < p0 then p1 else p0)
  j10_s0
set_option maxRecDepth 65536 in
set_option maxHeartbeats 40000000 in
theorem rm_min (l : Launch) (Z : State) (a0 : Array Value) (hw : ∀ d ∈ tables_1, d.before a0 Z = true) (ws : List Jvm.Cond) (p0 : Int32) (p1 : Int32) (h0 : Heap) (n0 : Nat) (Z0 : n0 ≤ h0.size) :
    MetFree l (⟨"java/lang/Math", "min", "(II)I"⟩ : MethodName) (head1 (Jvm.Cond.code (⟨"java/lang/Math", "min", "(II)I"⟩ : MethodName) jdk_29_method_69_code 2 (some .int) :: ws) ({ frames := 0, cells := 0, slots := 0, locals := 0 } : Room)) (fun a U => a = #[(.int p0), (.int p1)] ∧ Z.Warmed39 U.vm ∧ U.heap = h0) (fun _ _ _ _ _ => True) (fun _ U o U' => ∃ v L, o = .returned v ∧ QP (.int (fMin p0 p1)) h0 n0 v U'.heap L ∧ FrameEnd U o U' L ({ frames := 0, cells := 0, slots := 0, locals := 0 } : Room).cells ({ frames := 0, cells := 0, slots := 0, locals := 0 } : Room).slots) := by
  refine MetFree.of_bodySF (Jvm.Free.JP.mathPlain rfl (by decide +kernel)) hisR ?_
  intro p e s m args below meth c s₁ Bd hml0 hP hK
  obtain ⟨rfl, hZ, hh⟩ := hP
  have hx := Bd.exec
  have hby := Bd.bytes
  have hml : c.maxLocals = 2 := hml0
  have hown : s.vm.findClass "java/lang/Math" = some m.cls := findClass_of_methodNamed Bd.named
  have hnm := (name_of_methodNamed Bd.named Bd.method).1
  have X0 : Stand p l e ({ frames := 0, cells := 0, slots := 0, locals := 0 } : Room) s m #[(.int p0), (.int p1)] below meth c s₁ [] 0 0 := Stand.of_body Bd
  have e0 : s₁.heap = h0 := by rw [← hh, Bd.state]; rfl
  have N0 := Fr.nil n0
  obtain ⟨P0, hP0⟩ : ∃ P0 : State → Prop, P0 = fun t => Steps p.tables e below (s₁.setTop (entryFrame m #[(.int p0), (.int p1)] 2)) t := ⟨_, rfl⟩
  have K0 : ∀ t, Steps p.tables e below (s₁.setTop (mkF m 0 #[.val (.int p0), .val (.int p1)] [])) t → P0 t := by
    intro t k; rw [hP0]; exact castTop (min_ef m p0 p1) k
  have K1 : ∀ t, Steps p.tables e below (s₁.setTop (mkF m 2 #[.val (.int p0), .val (.int p1)] [(.int p1), (.int p0)])) t → P0 t := by
    intro t kt
    refine K0 t ?_
    show Steps p.tables e below (s₁.setTop (mkF m 0 #[.val (.int p0), .val (.int p1)] [])) t
    refine XS.iloadN X0.here hx rfl (hb hby min_d0) rfl ?_
    show Steps p.tables e below (s₁.setTop (mkF m 1 #[.val (.int p0), .val (.int p1)] [(.int p0)])) t
    refine XS.iloadN X0.here hx rfl (hb hby min_d1) rfl ?_
    exact kt
  obtain ⟨j10_s0, hj10_s0, K4⟩ : ∃ (j10_s0 : Int32), j10_s0 = (if p1 < p0 then p1 else p0) ∧ ∀ t, Steps p.tables e below (s₁.setTop (mkF m 10 #[.val (.int p0), .val (.int p1)] [(.int j10_s0)])) t → P0 t := by
    by_cases hc2 : p1 < p0
    · have K2 : ∀ t, Steps p.tables e below (s₁.setTop (mkF m 10 #[.val (.int p0), .val (.int p1)] [(.int p1)])) t → P0 t := by
        intro t kt
        refine K1 t ?_
        show Steps p.tables e below (s₁.setTop (mkF m 2 #[.val (.int p0), .val (.int p1)] [(.int p1), (.int p0)])) t
        refine XS.icmpYes X0.here hx rfl (pc0 := 2) (pc' := 9) rfl (hb hby min_d2) rfl (tlt hc2).2.2.1 (by decide) (by decide) ?_
        show Steps p.tables e below (s₁.setTop (mkF m 9 #[.val (.int p0), .val (.int p1)] [])) t
        refine XS.iloadN X0.here hx rfl (hb hby min_d9) rfl ?_
        exact kt
      exact ⟨_, (if_pos hc2).symm, K2⟩
    · have K3 : ∀ t, Steps p.tables e below (s₁.setTop (mkF m 10 #[.val (.int p0), .val (.int p1)] [(.int p0)])) t → P0 t := by
        intro t kt
        refine K1 t ?_
        show Steps p.tables e below (s₁.setTop (mkF m 2 #[.val (.int p0), .val (.int p1)] [(.int p1), (.int p0)])) t
        refine XS.icmpNo X0.here hx rfl (hb hby min_d2) rfl (flt hc2).2.2.1 ?_
        show Steps p.tables e below (s₁.setTop (mkF m 5 #[.val (.int p0), .val (.int p1)] [])) t
        refine XS.iloadN X0.here hx rfl (hb hby min_d5) rfl ?_
        show Steps p.tables e below (s₁.setTop (mkF m 6 #[.val (.int p0), .val (.int p1)] [(.int p0)])) t
        refine XS.goto X0.here hx rfl (pc0 := 6) (pc' := 10) rfl (hb hby min_d6) (by decide) (by decide) ?_
        exact kt
      exact ⟨_, (if_neg hc2).symm, K3⟩
  obtain ⟨fs, hr, hrun, hended, hW, hsame⟩ := X0.leave (v := some (.int j10_s0)) (fun h => by rw [Bd.returns] at h; cases h)
  refine ⟨_, _, ?_, hrun, hended, _, _, rfl, ?_, ⟨_, rfl⟩, hW, hsame.mono (by decide) (by decide)⟩
  · skip
    have q := K4 _ (retI X0 hx Bd.returns (hb hby min_d10) hr)
    rw [hP0] at q; exact q
  · show QP (.int (fMin p0 p1)) h0 n0 _ s₁.heap _
    rw [e0]
    subst hj10_s0
    exact ⟨rfl, N0, rfl⟩
theorem own_min {p1 : Int32} {n : Nat} (hp1 : p1 = Int32.ofNat n) (hn : n < 16) : fMin (16 : Int32) p1 = Int32.ofNat n := by
  have q : p1 < (16 : Int32) := by
    rw [hp1, Int32.lt_iff_toInt_lt, own_ofNat_toInt (by omega)]; have : (16 : Int32).toInt = 16 := by decide
    omega
  simp only [fMin]
  rw [if_pos q]; exact hp1
theorem ini_d0 : decode prog_26_method_1_code 0 = .ok (.aload_n 0, 1) := by decide +kernel
theorem ini_d1 : decode prog_26_method_1_code 1 = .ok (.invokespecial 1, 3) := by decide +kernel
theorem ini_d4 : decode prog_26_method_1_code 4 = .ok (.aload_n 0, 1) := by decide +kernel
theorem ini_d5 : decode prog_26_method_1_code 5 = .ok (.sipush 1024, 3) := by decide +kernel
theorem ini_d8 : decode prog_26_method_1_code 8 = .ok (.newarray .long, 2) := by decide +kernel
theorem ini_d10 : decode prog_26_method_1_code 10 = .ok (.putfield 9, 3) := by decide +kernel
theorem ini_d13 : decode prog_26_method_1_code 13 = .ok (.aload_n 0, 1) := by decide +kernel
theorem ini_d14 : decode prog_26_method_1_code 14 = .ok (.sipush 1024, 3) := by decide +kernel
theorem ini_d17 : decode prog_26_method_1_code 17 = .ok (.newarray .int, 2) := by decide +kernel
theorem ini_d19 : decode prog_26_method_1_code 19 = .ok (.putfield 13, 3) := by decide +kernel
theorem ini_d22 : decode prog_26_method_1_code 22 = .ok (.aload_n 0, 1) := by decide +kernel
theorem ini_d23 : decode prog_26_method_1_code 23 = .ok (.sipush 1024, 3) := by decide +kernel
theorem ini_d26 : decode prog_26_method_1_code 26 = .ok (.newarray .int, 2) := by decide +kernel
theorem ini_d28 : decode prog_26_method_1_code 28 = .ok (.putfield 17, 3) := by decide +kernel
theorem ini_d31 : decode prog_26_method_1_code 31 = .ok (.aload_n 0, 1) := by decide +kernel
theorem ini_d32 : decode prog_26_method_1_code 32 = .ok (.sipush 1024, 3) := by decide +kernel
theorem ini_d35 : decode prog_26_method_1_code 35 = .ok (.newarray .int, 2) := by decide +kernel
theorem ini_d37 : decode prog_26_method_1_code 37 = .ok (.putfield 20, 3) := by decide +kernel
theorem ini_d40 : decode prog_26_method_1_code 40 = .ok (.return_, 1) := by decide +kernel
theorem ini_pn : plainName "com/example/auditspur/auditspur/core/store/Postings" = true := by first | (simp [plainName, overriddenIn]; done) | decide +kernel
theorem ini_ef (m : MethodId) (x0 : Addr) : entryFrame m #[(.ref x0)] 1 = mkF m 0 #[.val (.ref x0)] [] := by first | (simp [entryFrame, mkF, argsToLocals, Value.category]; done) | rfl
set_option maxRecDepth 65536 in
set_option maxHeartbeats 40000000 in
theorem rm_ini (l : Launch) (Z : State) (a0 : Array Value) (hw : ∀ d ∈ tables_1, d.before a0 Z = true) (ws : List Jvm.Cond) (r0 : Addr) (u_hashes u_heads u_events u_next : Value) (h0 : Heap) (n0 : Nat) (Z0 : n0 ≤ h0.size) (E0 : Exa Z h0 r0 "com/example/auditspur/auditspur/core/store/Postings") (F_hashes : Fld Z h0 r0 "com/example/auditspur/auditspur/core/store/Postings" "hashes" "[J" u_hashes) (F_heads : Fld Z h0 r0 "com/example/auditspur/auditspur/core/store/Postings" "heads" "[I" u_heads) (F_events : Fld Z h0 r0 "com/example/auditspur/auditspur/core/store/Postings" "events" "[I" u_events) (F_next : Fld Z h0 r0 "com/example/auditspur/auditspur/core/store/Postings" "next" "[I" u_next) (F_codes : Fld Z h0 r0 "com/example/auditspur/auditspur/core/store/Postings" "codes" "I" (.int (0 : Int32))) (F_postings : Fld Z h0 r0 "com/example/auditspur/auditspur/core/store/Postings" "postings" "I" (.int (0 : Int32))) (g0 : n0 ≤ r0) :
    MetFree l (⟨"com/example/auditspur/auditspur/core/store/Postings", "<init>", "()V"⟩ : MethodName) (head1 (Jvm.Cond.code (⟨"com/example/auditspur/auditspur/core/store/Postings", "<init>", "()V"⟩ : MethodName) prog_26_method_1_code 1 none :: ws) ({ frames := 1, cells := 4, slots := 4096, locals := 12 } : Room)) (fun a U => a = #[(.ref r0)] ∧ Z.Warmed39 U.vm ∧ U.heap = h0) (fun _ _ _ _ _ => True) (fun _ U o U' => ∃ v L, o = .returned v ∧ QN Z r0 h0 n0 v U'.heap L ∧ FrameEnd U o U' L ({ frames := 1, cells := 4, slots := 4096, locals := 12 } : Room).cells ({ frames := 1, cells := 4, slots := 4096, locals := 12 } : Room).slots) := by
  refine MetFree.of_bodySF (plainFor_of_name ini_pn) hisR ?_
  intro p e s m args below meth c s₁ Bd hml0 hP hK
  obtain ⟨rfl, hZ, hh⟩ := hP
  have hx := Bd.exec
  have hby := Bd.bytes
  have hml : c.maxLocals = 1 := hml0
  have hown : s.vm.findClass "com/example/auditspur/auditspur/core/store/Postings" = some m.cls := findClass_of_methodNamed Bd.named
  have hnm := (name_of_methodNamed Bd.named Bd.method).1
  have X0 : Stand p l e ({ frames := 1, cells := 4, slots := 4096, locals := 12 } : Room) s m #[(.ref r0)] below meth c s₁ [] 0 0 := Stand.of_body Bd
  have e0 : s₁.heap = h0 := by rw [← hh, Bd.state]; rfl
  have N0 := Fr.nil n0
  obtain ⟨P0, hP0⟩ : ∃ P0 : State → Prop, P0 = fun t => Steps p.tables e below (s₁.setTop (entryFrame m #[(.ref r0)] 1)) t := ⟨_, rfl⟩
  have K0 : ∀ t, Steps p.tables e below (s₁.setTop (mkF m 0 #[.val (.ref r0)] [])) t → P0 t := by
    intro t k; rw [hP0]; exact castTop (ini_ef m r0) k
  obtain ⟨T1, X1, e1, st1⟩ := initO X0 hx hZ hown (hw _ (List.mem_of_getElem? (i := 8) rfl)) (hw _ (List.mem_of_getElem? (i := 9) rfl)) (hw _ (List.mem_of_getElem? (i := 10) rfl)) e0 (g := (mkF m 1 #[.val (.ref r0)] [(.ref r0)])) rfl (by rw [hml]; rfl) rfl (hb hby ini_d1) (by decide) (W := 0) (by show 2 * 0 + _ ≤ _; exact Nat.le_of_eq rfl) (by decide)
  obtain ⟨T2, h2, k2, X2, e2, E2, A2, st2⟩ := newP X1 hx hZ (hw _ (List.mem_of_getElem? (i := 11) rfl)) e1 (g := (mkF m 8 #[.val (.ref r0)] [(.int (1024 : Int32)), (.ref r0)])) rfl (hb hby ini_d8) rfl (by decide) (cap := 1024) (by decide) (by decide) (by decide) (by decide)
  obtain ⟨b8, g2⟩ : ∃ z, z = h0.size := ⟨_, rfl⟩
  have g_b8 : n0 ≤ b8 := Nat.le_trans Z0 (Nat.le_of_eq g2.symm)
  have ne_r0_b8 : r0 ≠ b8 := Nat.ne_of_lt (Nat.lt_of_lt_of_le E0.lt (Nat.le_of_eq g2.symm))
  rw [← g2] at A2 st2
  have sz_b8 : h0.size ≤ b8 := Nat.le_trans (Keep.refl h0 [r0]).1 (Nat.le_of_eq g2.symm)
  have Z2 : n0 ≤ h2.size := Nat.le_trans Z0 E2.1
  have F3 : Exa Z h2 r0 "com/example/auditspur/auditspur/core/store/Postings" := Exa.ext E2 E0
  have F4 : Fld Z h2 r0 "com/example/auditspur/auditspur/core/store/Postings" "hashes" "[J" u_hashes := Fld.ext E2 F_hashes
  have F5 : Fld Z h2 r0 "com/example/auditspur/auditspur/core/store/Postings" "heads" "[I" u_heads := Fld.ext E2 F_heads
  have F6 : Fld Z h2 r0 "com/example/auditspur/auditspur/core/store/Postings" "events" "[I" u_events := Fld.ext E2 F_events
  have F7 : Fld Z h2 r0 "com/example/auditspur/auditspur/core/store/Postings" "next" "[I" u_next := Fld.ext E2 F_next
  have F8 : Fld Z h2 r0 "com/example/auditspur/auditspur/core/store/Postings" "codes" "I" (.int (0 : Int32)) := Fld.ext E2 F_codes
  have F9 : Fld Z h2 r0 "com/example/auditspur/auditspur/core/store/Postings" "postings" "I" (.int (0 : Int32)) := Fld.ext E2 F_postings
  obtain ⟨f8, hf8, V2⟩ : ∃ f8 : Nat → Int64, f8 = (fun _ => 0) ∧ JA Z h2 b8 1024 f8 := ⟨_, rfl, JA.new A2 (by decide)⟩
  have Kp2 : Keep h0 h2 [r0] := (Keep.refl h0 [r0]).ext E2
  obtain ⟨T10, h10, X10, e10, W10, st10⟩ := putF X2 hx hZ hown (host := "") (Or.inl (hw _ (List.mem_of_getElem? (i := 12) rfl))) Via.refl e2 F4 F3 (Or.inl (hw _ (List.mem_of_getElem? (i := 13) rfl))) (hw _ (List.mem_of_getElem? (i := 3) rfl)) (ty := (.array .long)) (by decide) rfl rfl (g := (mkF m 10 #[.val (.ref r0)] [(.ref b8), (.ref r0)])) rfl rfl (hb hby ini_d10)
  have Z10 : n0 ≤ h10.size := Nat.le_trans Z2 (Keep.of_wr W10).1
  have N10 := Fr.snoc X10 N0 g0
  have F11 : Exa Z h10 r0 "com/example/auditspur/auditspur/core/store/Postings" := Exa.wr W10 F3
  have F12 : Fld Z h10 r0 "com/example/auditspur/auditspur/core/store/Postings" "heads" "[I" u_heads := Fld.other W10 F5 (Or.inr (slot_ne (Or.inl (hw _ (List.mem_of_getElem? (i := 16) rfl))) (Or.inl (hw _ (List.mem_of_getElem? (i := 13) rfl))) (by decide) (t := (.array .int)) (t' := (.array .long)) (by decide) (by decide)))
  have F13 : Fld Z h10 r0 "com/example/auditspur/auditspur/core/store/Postings" "events" "[I" u_events := Fld.other W10 F6 (Or.inr (slot_ne (Or.inl (hw _ (List.mem_of_getElem? (i := 18) rfl))) (Or.inl (hw _ (List.mem_of_getElem? (i := 13) rfl))) (by decide) (t := (.array .int)) (t' := (.array .long)) (by decide) (by decide)))
  have F14 : Fld Z h10 r0 "com/example/auditspur/auditspur/core/store/Postings" "next" "[I" u_next := Fld.other W10 F7 (Or.inr (slot_ne (Or.inl (hw _ (List.mem_of_getElem? (i := 20) rfl))) (Or.inl (hw _ (List.mem_of_getElem? (i := 13) rfl))) (by decide) (t := (.array .int)) (t' := (.array .long)) (by decide) (by decide)))
  have F15 : Fld Z h10 r0 "com/example/auditspur/auditspur/core/store/Postings" "codes" "I" (.int (0 : Int32)) := Fld.other W10 F8 (Or.inr (slot_ne (Or.inl (hw _ (List.mem_of_getElem? (i := 33) rfl))) (Or.inl (hw _ (List.mem_of_getElem? (i := 13) rfl))) (by decide) (t := .int) (t' := (.array .long)) (by decide) (by decide)))
  have F16 : Fld Z h10 r0 "com/example/auditspur/auditspur/core/store/Postings" "postings" "I" (.int (0 : Int32)) := Fld.other W10 F9 (Or.inr (slot_ne (Or.inl (hw _ (List.mem_of_getElem? (i := 27) rfl))) (Or.inl (hw _ (List.mem_of_getElem? (i := 13) rfl))) (by decide) (t := .int) (t' := (.array .long)) (by decide) (by decide)))
  have F17 : JA Z h10 b8 1024 f8 := V2.other W10 (Ne.symm ne_r0_b8)
  have Kp10 : Keep h0 h10 [r0] := Kp2.wr W10 (Or.inl (List.mem_of_getElem? (i := 0) rfl))
  have F18 : Fld Z h10 r0 "com/example/auditspur/auditspur/core/store/Postings" "hashes" "[J" (.ref b8) := Fld.same W10 F4
  obtain ⟨T19, h19, k19, X19, e19, E19, A19, st19⟩ := newP X10 hx hZ (hw _ (List.mem_of_getElem? (i := 14) rfl)) e10 (g := (mkF m 17 #[.val (.ref r0)] [(.int (1024 : Int32)), (.ref r0)])) rfl (hb hby ini_d17) rfl (by decide) (cap := 1024) (by decide) (by decide) (by decide) (by decide)
  obtain ⟨b17, g19⟩ : ∃ z, z = h10.size := ⟨_, rfl⟩
  have g_b17 : n0 ≤ b17 := Nat.le_trans Z10 (Nat.le_of_eq g19.symm)
  have ne_r0_b17 : r0 ≠ b17 := Nat.ne_of_lt (Nat.lt_of_lt_of_le F11.lt (Nat.le_of_eq g19.symm))
  have ne_b8_b17 : b8 ≠ b17 := Nat.ne_of_lt (Nat.lt_of_lt_of_le F17.lt (Nat.le_of_eq g19.symm))
  rw [← g19] at A19 st19
  have sz_b17 : h0.size ≤ b17 := Nat.le_trans Kp10.1 (Nat.le_of_eq g19.symm)
  have Z19 : n0 ≤ h19.size := Nat.le_trans Z10 E19.1
  have F20 : Exa Z h19 r0 "com/example/auditspur/auditspur/core/store/Postings" := Exa.ext E19 F11
  have F21 : Fld Z h19 r0 "com/example/auditspur/auditspur/core/store/Postings" "hashes" "[J" (.ref b8) := Fld.ext E19 F18
  have F22 : Fld Z h19 r0 "com/example/auditspur/auditspur/core/store/Postings" "heads" "[I" u_heads := Fld.ext E19 F12
  have F23 : Fld Z h19 r0 "com/example/auditspur/auditspur/core/store/Postings" "events" "[I" u_events := Fld.ext E19 F13
  have F24 : Fld Z h19 r0 "com/example/auditspur/auditspur/core/store/Postings" "next" "[I" u_next := Fld.ext E19 F14
  have F25 : Fld Z h19 r0 "com/example/auditspur/auditspur/core/store/Postings" "codes" "I" (.int (0 : Int32)) := Fld.ext E19 F15
  have F26 : Fld Z h19 r0 "com/example/auditspur/auditspur/core/store/Postings" "postings" "I" (.int (0 : Int32)) := Fld.ext E19 F16
  have F27 : JA Z h19 b8 1024 f8 := F17.ext E19
  obtain ⟨f17, hf17, V19⟩ : ∃ f17 : Nat → Int32, f17 = (fun _ => 0) ∧ IA Z h19 b17 .int 1024 f17 := ⟨_, rfl, IA.new A19 rfl rfl (by decide)⟩
  have Kp19 : Keep h0 h19 [r0] := Kp10.ext E19
  obtain ⟨T28, h28, X28, e28, W28, st28⟩ := putF X19 hx hZ hown (host := "") (Or.inl (hw _ (List.mem_of_getElem? (i := 15) rfl))) Via.refl e19 F22 F20 (Or.inl (hw _ (List.mem_of_getElem? (i := 16) rfl))) (hw _ (List.mem_of_getElem? (i := 3) rfl)) (ty := (.array .int)) (by decide) rfl rfl (g := (mkF m 19 #[.val (.ref r0)] [(.ref b17), (.ref r0)])) rfl rfl (hb hby ini_d19)
  have Z28 : n0 ≤ h28.size := Nat.le_trans Z19 (Keep.of_wr W28).1
  have N28 := Fr.snoc X28 N10 g0
  have F29 : Exa Z h28 r0 "com/example/auditspur/auditspur/core/store/Postings" := Exa.wr W28 F20
  have F30 : Fld Z h28 r0 "com/example/auditspur/auditspur/core/store/Postings" "hashes" "[J" (.ref b8) := Fld.other W28 F21 (Or.inr (slot_ne (Or.inl (hw _ (List.mem_of_getElem? (i := 13) rfl))) (Or.inl (hw _ (List.mem_of_getElem? (i := 16) rfl))) (by decide) (t := (.array .long)) (t' := (.array .int)) (by decide) (by decide)))
  have F31 : Fld Z h28 r0 "com/example/auditspur/auditspur/core/store/Postings" "events" "[I" u_events := Fld.other W28 F23 (Or.inr (slot_ne (Or.inl (hw _ (List.mem_of_getElem? (i := 18) rfl))) (Or.inl (hw _ (List.mem_of_getElem? (i := 16) rfl))) (by decide) (t := (.array .int)) (t' := (.array .int)) (by decide) (by decide)))
  have F32 : Fld Z h28 r0 "com/example/auditspur/auditspur/core/store/Postings" "next" "[I" u_next := Fld.other W28 F24 (Or.inr (slot_ne (Or.inl (hw _ (List.mem_of_getElem? (i := 20) rfl))) (Or.inl (hw _ (List.mem_of_getElem? (i := 16) rfl))) (by decide) (t := (.array .int)) (t' := (.array .int)) (by decide) (by decide)))
  have F33 : Fld Z h28 r0 "com/example/auditspur/auditspur/core/store/Postings" "codes" "I" (.int (0 : Int32)) := Fld.other W28 F25 (Or.inr (slot_ne (Or.inl (hw _ (List.mem_of_getElem? (i := 33) rfl))) (Or.inl (hw _ (List.mem_of_getElem? (i := 16) rfl))) (by decide) (t := .int) (t' := (.array .int)) (by decide) (by decide)))
  have F34 : Fld Z h28 r0 "com/example/auditspur/auditspur/core/store/Postings" "postings" "I" (.int (0 : Int32)) := Fld.other W28 F26 (Or.inr (slot_ne (Or.inl (hw _ (List.mem_of_getElem? (i := 27) rfl))) (Or.inl (hw _ (List.mem_of_getElem? (i := 16) rfl))) (by decide) (t := .int) (t' := (.array .int)) (by decide) (by decide)))
  have F35 : JA Z h28 b8 1024 f8 := F27.other W28 (Ne.symm ne_r0_b8)
  have F36 : IA Z h28 b17 .int 1024 f17 := V19.other W28 (Ne.symm ne_r0_b17)
  have Kp28 : Keep h0 h28 [r0] := Kp19.wr W28 (Or.inl (List.mem_of_getElem? (i := 0) rfl))
  have F37 : Fld Z h28 r0 "com/example/auditspur/auditspur/core/store/Postings" "heads" "[I" (.ref b17) := Fld.same W28 F22
  obtain ⟨T38, h38, k38, X38, e38, E38, A38, st38⟩ := newP X28 hx hZ (hw _ (List.mem_of_getElem? (i := 14) rfl)) e28 (g := (mkF m 26 #[.val (.ref r0)] [(.int (1024 : Int32)), (.ref r0)])) rfl (hb hby ini_d26) rfl (by decide) (cap := 1024) (by decide) (by decide) (by decide) (by decide)
  obtain ⟨b26, g38⟩ : ∃ z, z = h28.size := ⟨_, rfl⟩
  have g_b26 : n0 ≤ b26 := Nat.le_trans Z28 (Nat.le_of_eq g38.symm)
  have ne_r0_b26 : r0 ≠ b26 := Nat.ne_of_lt (Nat.lt_of_lt_of_le F29.lt (Nat.le_of_eq g38.symm))
  have ne_b8_b26 : b8 ≠ b26 := Nat.ne_of_lt (Nat.lt_of_lt_of_le F35.lt (Nat.le_of_eq g38.symm))
  have ne_b17_b26 : b17 ≠ b26 := Nat.ne_of_lt (Nat.lt_of_lt_of_le F36.lt (Nat.le_of_eq g38.symm))
  rw [← g38] at A38 st38
  have sz_b26 : h0.size ≤ b26 := Nat.le_trans Kp28.1 (Nat.le_of_eq g38.symm)
  have Z38 : n0 ≤ h38.size := Nat.le_trans Z28 E38.1
  have F39 : Exa Z h38 r0 "com/example/auditspur/auditspur/core/store/Postings" := Exa.ext E38 F29
  have F40 : Fld Z h38 r0 "com/example/auditspur/auditspur/core/store/Postings" "hashes" "[J" (.ref b8) := Fld.ext E38 F30
  have F41 : Fld Z h38 r0 "com/example/auditspur/auditspur/core/store/Postings" "heads" "[I" (.ref b17) := Fld.ext E38 F37
  have F42 : Fld Z h38 r0 "com/example/auditspur/auditspur/core/store/Postings" "events" "[I" u_events := Fld.ext E38 F31
  have F43 : Fld Z h38 r0 "com/example/auditspur/auditspur/core/store/Postings" "next" "[I" u_next := Fld.ext E38 F32
  have F44 : Fld Z h38 r0 "com/example/auditspur/auditspur/core/store/Postings" "codes" "I" (.int (0 : Int32)) := Fld.ext E38 F33
  have F45 : Fld Z h38 r0 "com/example/auditspur/auditspur/core/store/Postings" "postings" "I" (.int (0 : Int32)) := Fld.ext E38 F34
  have F46 : JA Z h38 b8 1024 f8 := F35.ext E38
  have F47 : IA Z h38 b17 .int 1024 f17 := F36.ext E38
  obtain ⟨f26, hf26, V38⟩ : ∃ f26 : Nat → Int32, f26 = (fun _ => 0) ∧ IA Z h38 b26 .int 1024 f26 := ⟨_, rfl, IA.new A38 rfl rfl (by decide)⟩
  have Kp38 : Keep h0 h38 [r0] := Kp28.ext E38
  obtain ⟨T48, h48, X48, e48, W48, st48⟩ := putF X38 hx hZ hown (host := "") (Or.inl (hw _ (List.mem_of_getElem? (i := 17) rfl))) Via.refl e38 F42 F39 (Or.inl (hw _ (List.mem_of_getElem? (i := 18) rfl))) (hw _ (List.mem_of_getElem? (i := 3) rfl)) (ty := (.array .int)) (by decide) rfl rfl (g := (mkF m 28 #[.val (.ref r0)] [(.ref b26), (.ref r0)])) rfl rfl (hb hby ini_d28)
  have Z48 : n0 ≤ h48.size := Nat.le_trans Z38 (Keep.of_wr W48).1
  have N48 := Fr.snoc X48 N28 g0
  have F49 : Exa Z h48 r0 "com/example/auditspur/auditspur/core/store/Postings" := Exa.wr W48 F39
  have F50 : Fld Z h48 r0 "com/example/auditspur/auditspur/core/store/Postings" "hashes" "[J" (.ref b8) := Fld.other W48 F40 (Or.inr (slot_ne (Or.inl (hw _ (List.mem_of_getElem? (i := 13) rfl))) (Or.inl (hw _ (List.mem_of_getElem? (i := 18) rfl))) (by decide) (t := (.array .long)) (t' := (.array .int)) (by decide) (by decide)))
  have F51 : Fld Z h48 r0 "com/example/auditspur/auditspur/core/store/Postings" "heads" "[I" (.ref b17) := Fld.other W48 F41 (Or.inr (slot_ne (Or.inl (hw _ (List.mem_of_getElem? (i := 16) rfl))) (Or.inl (hw _ (List.mem_of_getElem? (i := 18) rfl))) (by decide) (t := (.array .int)) (t' := (.array .int)) (by decide) (by decide)))
  have F52 : Fld Z h48 r0 "com/example/auditspur/auditspur/core/store/Postings" "next" "[I" u_next := Fld.other W48 F43 (Or.inr (slot_ne (Or.inl (hw _ (List.mem_of_getElem? (i := 20) rfl))) (Or.inl (hw _ (List.mem_of_getElem? (i := 18) rfl))) (by decide) (t := (.array .int)) (t' := (.array .int)) (by decide) (by decide)))
  have F53 : Fld Z h48 r0 "com/example/auditspur/auditspur/core/store/Postings" "codes" "I" (.int (0 : Int32)) := Fld.other W48 F44 (Or.inr (slot_ne (Or.inl (hw _ (List.mem_of_getElem? (i := 33) rfl))) (Or.inl (hw _ (List.mem_of_getElem? (i := 18) rfl))) (by decide) (t := .int) (t' := (.array .int)) (by decide) (by decide)))
  have F54 : Fld Z h48 r0 "com/example/auditspur/auditspur/core/store/Postings" "postings" "I" (.int (0 : Int32)) := Fld.other W48 F45 (Or.inr (slot_ne (Or.inl (hw _ (List.mem_of_getElem? (i := 27) rfl))) (Or.inl (hw _ (List.mem_of_getElem? (i := 18) rfl))) (by decide) (t := .int) (t' := (.array .int)) (by decide) (by decide)))
  have F55 : JA Z h48 b8 1024 f8 := F46.other W48 (Ne.symm ne_r0_b8)
  have F56 : IA Z h48 b17 .int 1024 f17 := F47.other W48 (Ne.symm ne_r0_b17)
  have F57 : IA Z h48 b26 .int 1024 f26 := V38.other W48 (Ne.symm ne_r0_b26)
  have Kp48 : Keep h0 h48 [r0] := Kp38.wr W48 (Or.inl (List.mem_of_getElem? (i := 0) rfl))
  have F58 : Fld Z h48 r0 "com/example/auditspur/auditspur/core/store/Postings" "events" "[I" (.ref b26) := Fld.same W48 F42
  obtain ⟨T59, h59, k59, X59, e59, E59, A59, st59⟩ := newP X48 hx hZ (hw _ (List.mem_of_getElem? (i := 14) rfl)) e48 (g := (mkF m 35 #[.val (.ref r0)] [(.int (1024 : Int32)), (.ref r0)])) rfl (hb hby ini_d35) rfl (by decide) (cap := 1024) (by decide) (by decide) (by decide) (by decide)
  obtain ⟨b35, g59⟩ : ∃ z, z = h48.size := ⟨_, rfl⟩
  have g_b35 : n0 ≤ b35 := Nat.le_trans Z48 (Nat.le_of_eq g59.symm)
  have ne_r0_b35 : r0 ≠ b35 := Nat.ne_of_lt (Nat.lt_of_lt_of_le F49.lt (Nat.le_of_eq g59.symm))
  have ne_b8_b35 : b8 ≠ b35 := Nat.ne_of_lt (Nat.lt_of_lt_of_le F55.lt (Nat.le_of_eq g59.symm))
  have ne_b17_b35 : b17 ≠ b35 := Nat.ne_of_lt (Nat.lt_of_lt_of_le F56.lt (Nat.le_of_eq g59.symm))
  have ne_b26_b35 : b26 ≠ b35 := Nat.ne_of_lt (Nat.lt_of_lt_of_le F57.lt (Nat.le_of_eq g59.symm))
  rw [← g59] at A59 st59
  have sz_b35 : h0.size ≤ b35 := Nat.le_trans Kp48.1 (Nat.le_of_eq g59.symm)
  have Z59 : n0 ≤ h59.size := Nat.le_trans Z48 E59.1
  have F60 : Exa Z h59 r0 "com/example/auditspur/auditspur/core/store/Postings" := Exa.ext E59 F49
  have F61 : Fld Z h59 r0 "com/example/auditspur/auditspur/core/store/Postings" "hashes" "[J" (.ref b8) := Fld.ext E59 F50
  have F62 : Fld Z h59 r0 "com/example/auditspur/auditspur/core/store/Postings" "heads" "[I" (.ref b17) := Fld.ext E59 F51
  have F63 : Fld Z h59 r0 "com/example/auditspur/auditspur/core/store/Postings" "events" "[I" (.ref b26) := Fld.ext E59 F58
  have F64 : Fld Z h59 r0 "com/example/auditspur/auditspur/core/store/Postings" "next" "[I" u_next := Fld.ext E59 F52
  have F65 : Fld Z h59 r0 "com/example/auditspur/auditspur/core/store/Postings" "codes" "I" (.int (0 : Int32)) := Fld.ext E59 F53
  have F66 : Fld Z h59 r0 "com/example/auditspur/auditspur/core/store/Postings" "postings" "I" (.int (0 : Int32)) := Fld.ext E59 F54
  have F67 : JA Z h59 b8 1024 f8 := F55.ext E59
  have F68 : IA Z h59 b17 .int 1024 f17 := F56.ext E59
  have F69 : IA Z h59 b26 .int 1024 f26 := F57.ext E59
  obtain ⟨f35, hf35, V59⟩ : ∃ f35 : Nat → Int32, f35 = (fun _ => 0) ∧ IA Z h59 b35 .int 1024 f35 := ⟨_, rfl, IA.new A59 rfl rfl (by decide)⟩
  have Kp59 : Keep h0 h59 [r0] := Kp48.ext E59
  obtain ⟨T70, h70, X70, e70, W70, st70⟩ := putF X59 hx hZ hown (host := "") (Or.inl (hw _ (List.mem_of_getElem? (i := 19) rfl))) Via.refl e59 F64 F60 (Or.inl (hw _ (List.mem_of_getElem? (i := 20) rfl))) (hw _ (List.mem_of_getElem? (i := 3) rfl)) (ty := (.array .int)) (by decide) rfl rfl (g := (mkF m 37 #[.val (.ref r0)] [(.ref b35), (.ref r0)])) rfl rfl (hb hby ini_d37)
  have Z70 : n0 ≤ h70.size := Nat.le_trans Z59 (Keep.of_wr W70).1
  have N70 := Fr.snoc X70 N48 g0
  have F71 : Exa Z h70 r0 "com/example/auditspur/auditspur/core/store/Postings" := Exa.wr W70 F60
  have F72 : Fld Z h70 r0 "com/example/auditspur/auditspur/core/store/Postings" "hashes" "[J" (.ref b8) := Fld.other W70 F61 (Or.inr (slot_ne (Or.inl (hw _ (List.mem_of_getElem? (i := 13) rfl))) (Or.inl (hw _ (List.mem_of_getElem? (i := 20) rfl))) (by decide) (t := (.array .long)) (t' := (.array .int)) (by decide) (by decide)))
  have F73 : Fld Z h70 r0 "com/example/auditspur/auditspur/core/store/Postings" "heads" "[I" (.ref b17) := Fld.other W70 F62 (Or.inr (slot_ne (Or.inl (hw _ (List.mem_of_getElem? (i := 16) rfl))) (Or.inl (hw _ (List.mem_of_getElem? (i := 20) rfl))) (by decide) (t := (.array .int)) (t' := (.array .int)) (by decide) (by decide)))
  have F74 : Fld Z h70 r0 "com/example/auditspur/auditspur/core/store/Postings" "events" "[I" (.ref b26) := Fld.other W70 F63 (Or.inr (slot_ne (Or.inl (hw _ (List.mem_of_getElem? (i := 18) rfl))) (Or.inl (hw _ (List.mem_of_getElem? (i := 20) rfl))) (by decide) (t := (.array .int)) (t' := (.array .int)) (by decide) (by decide)))
  have F75 : Fld Z h70 r0 "com/example/auditspur/auditspur/core/store/Postings" "codes" "I" (.int (0 : Int32)) := Fld.other W70 F65 (Or.inr (slot_ne (Or.inl (hw _ (List.mem_of_getElem? (i := 33) rfl))) (Or.inl (hw _ (List.mem_of_getElem? (i := 20) rfl))) (by decide) (t := .int) (t' := (.array .int)) (by decide) (by decide)))
  have F76 : Fld Z h70 r0 "com/example/auditspur/auditspur/core/store/Postings" "postings" "I" (.int (0 : Int32)) := Fld.other W70 F66 (Or.inr (slot_ne (Or.inl (hw _ (List.mem_of_getElem? (i := 27) rfl))) (Or.inl (hw _ (List.mem_of_getElem? (i := 20) rfl))) (by decide) (t := .int) (t' := (.array .int)) (by decide) (by decide)))
  have F77 : JA Z h70 b8 1024 f8 := F67.other W70 (Ne.symm ne_r0_b8)
  have F78 : IA Z h70 b17 .int 1024 f17 := F68.other W70 (Ne.symm ne_r0_b17)
  have F79 : IA Z h70 b26 .int 1024 f26 := F69.other W70 (Ne.symm ne_r0_b26)
  have F80 : IA Z h70 b35 .int 1024 f35 := V59.other W70 (Ne.symm ne_r0_b35)
  have Kp70 : Keep h0 h70 [r0] := Kp59.wr W70 (Or.inl (List.mem_of_getElem? (i := 0) rfl))
  have F81 : Fld Z h70 r0 "com/example/auditspur/auditspur/core/store/Postings" "next" "[I" (.ref b35) := Fld.same W70 F64
  have K82 : ∀ t, Steps p.tables e below (T70.setTop (mkF m 40 #[.val (.ref r0)] [])) t → P0 t := by
    intro t kt
    refine K0 t ?_
    show Steps p.tables e below (s₁.setTop (mkF m 0 #[.val (.ref r0)] [])) t
    refine XS.aloadN X0.here hx rfl (hb hby ini_d0) rfl rfl ?_
    show Steps p.tables e below (s₁.setTop (mkF m 1 #[.val (.ref r0)] [(.ref r0)])) t
    refine st1 _ ?_
    show Steps p.tables e below (T1.setTop (mkF m 4 #[.val (.ref r0)] [])) t
    refine XS.aloadN X1.here hx rfl (hb hby ini_d4) rfl rfl ?_
    show Steps p.tables e below (T1.setTop (mkF m 5 #[.val (.ref r0)] [(.ref r0)])) t
    refine XS.sipush X1.here hx rfl (hb hby ini_d5) ?_
    show Steps p.tables e below (T1.setTop (mkF m 8 #[.val (.ref r0)] [(.int (1024 : Int32)), (.ref r0)])) t
    refine st2 _ ?_
    show Steps p.tables e below (T2.setTop (mkF m 10 #[.val (.ref r0)] [(.ref b8), (.ref r0)])) t
    refine st10 _ ?_
    show Steps p.tables e below (T10.setTop (mkF m 13 #[.val (.ref r0)] [])) t
    refine XS.aloadN X10.here hx rfl (hb hby ini_d13) rfl rfl ?_
    show Steps p.tables e below (T10.setTop (mkF m 14 #[.val (.ref r0)] [(.ref r0)])) t
    refine XS.sipush X10.here hx rfl (hb hby ini_d14) ?_
    show Steps p.tables e below (T10.setTop (mkF m 17 #[.val (.ref r0)] [(.int (1024 : Int32)), (.ref r0)])) t
    refine st19 _ ?_
    show Steps p.tables e below (T19.setTop (mkF m 19 #[.val (.ref r0)] [(.ref b17), (.ref r0)])) t
    refine st28 _ ?_
    show Steps p.tables e below (T28.setTop (mkF m 22 #[.val (.ref r0)] [])) t
    refine XS.aloadN X28.here hx rfl (hb hby ini_d22) rfl rfl ?_
    show Steps p.tables e below (T28.setTop (mkF m 23 #[.val (.ref r0)] [(.ref r0)])) t
    refine XS.sipush X28.here hx rfl (hb hby ini_d23) ?_
    show Steps p.tables e below (T28.setTop (mkF m 26 #[.val (.ref r0)] [(.int (1024 : Int32)), (.ref r0)])) t
    refine st38 _ ?_
    show Steps p.tables e below (T38.setTop (mkF m 28 #[.val (.ref r0)] [(.ref b26), (.ref r0)])) t
    refine st48 _ ?_
    show Steps p.tables e below (T48.setTop (mkF m 31 #[.val (.ref r0)] [])) t
    refine XS.aloadN X48.here hx rfl (hb hby ini_d31) rfl rfl ?_
    show Steps p.tables e below (T48.setTop (mkF m 32 #[.val (.ref r0)] [(.ref r0)])) t
    refine XS.sipush X48.here hx rfl (hb hby ini_d32) ?_
    show Steps p.tables e below (T48.setTop (mkF m 35 #[.val (.ref r0)] [(.int (1024 : Int32)), (.ref r0)])) t
    refine st59 _ ?_
    show Steps p.tables e below (T59.setTop (mkF m 37 #[.val (.ref r0)] [(.ref b35), (.ref r0)])) t
    refine st70 _ ?_
    exact kt
  obtain ⟨fs, hr, hrun, hended, hW, hsame⟩ := X70.leave (v := none) (fun _ => rfl)
  refine ⟨_, _, ?_, hrun, hended, _, _, rfl, ?_, ⟨_, rfl⟩, hW, hsame.mono (by decide) (by decide)⟩
  · skip
    have q := K82 _ (X70.returnOut hx Bd.returns (hb hby ini_d40) hr)
    rw [hP0] at q; exact q
  · show QN Z r0 h0 n0 _ T70.heap _
    rw [e70]
    subst hf8
    subst hf17
    subst hf26
    subst hf35
    exact ⟨b8, b17, b26, b35, rfl, N70, Kp70, F71, F72, F73, F74, F81, F77, F78, F79, F80, F75, F76, sz_b8, sz_b17, sz_b26, sz_b35, ne_r0_b8, ne_r0_b17, ne_r0_b26, ne_r0_b35, ne_b8_b17, ne_b8_b26, ne_b8_b35, ne_b17_b26, ne_b17_b35, ne_b26_b35⟩
theorem slt_d0 : decode prog_26_method_5_code 0 = .ok (.aload_n 0, 1) := by decide +kernel
theorem slt_d1 : decode prog_26_method_5_code 1 = .ok (.getfield 13, 3) := by decide +kernel
theorem slt_d4 : decode prog_26_method_5_code 4 = .ok (.arraylength, 1) := by decide +kernel
theorem slt_d5 : decode prog_26_method_5_code 5 = .ok (.iconst 1, 1) := by decide +kernel
theorem slt_d6 : decode prog_26_method_5_code 6 = .ok (.isub, 1) := by decide +kernel
theorem slt_d7 : decode prog_26_method_5_code 7 = .ok (.istore_n 3, 1) := by decide +kernel
theorem slt_d8 : decode prog_26_method_5_code 8 = .ok (.lload_n 1, 1) := by decide +kernel
theorem slt_d9 : decode prog_26_method_5_code 9 = .ok (.l2i, 1) := by decide +kernel
theorem slt_d10 : decode prog_26_method_5_code 10 = .ok (.iload_n 3, 1) := by decide +kernel
theorem slt_d11 : decode prog_26_method_5_code 11 = .ok (.iand, 1) := by decide +kernel
theorem slt_d12 : decode prog_26_method_5_code 12 = .ok (.istore 4, 2) := by decide +kernel
theorem slt_d14 : decode prog_26_method_5_code 14 = .ok (.aload_n 0, 1) := by decide +kernel
theorem slt_d15 : decode prog_26_method_5_code 15 = .ok (.getfield 13, 3) := by decide +kernel
theorem slt_d18 : decode prog_26_method_5_code 18 = .ok (.iload 4, 2) := by decide +kernel
theorem slt_d20 : decode prog_26_method_5_code 20 = .ok (.iaload, 1) := by decide +kernel
theorem slt_d21 : decode prog_26_method_5_code 21 = .ok (.ifCond .eq 26, 3) := by decide +kernel
theorem slt_d24 : decode prog_26_method_5_code 24 = .ok (.aload_n 0, 1) := by decide +kernel
theorem slt_d25 : decode prog_26_method_5_code 25 = .ok (.getfield 9, 3) := by decide +kernel
theorem slt_d28 : decode prog_26_method_5_code 28 = .ok (.iload 4, 2) := by decide +kernel
theorem slt_d30 : decode prog_26_method_5_code 30 = .ok (.laload, 1) := by decide +kernel
theorem slt_d31 : decode prog_26_method_5_code 31 = .ok (.lload_n 1, 1) := by decide +kernel
theorem slt_d32 : decode prog_26_method_5_code 32 = .ok (.lcmp, 1) := by decide +kernel
theorem slt_d33 : decode prog_26_method_5_code 33 = .ok (.ifCond .eq 14, 3) := by decide +kernel
theorem slt_d36 : decode prog_26_method_5_code 36 = .ok (.iload 4, 2) := by decide +kernel
theorem slt_d38 : decode prog_26_method_5_code 38 = .ok (.iconst 1, 1) := by decide +kernel
theorem slt_d39 : decode prog_26_method_5_code 39 = .ok (.iadd, 1) := by decide +kernel
theorem slt_d40 : decode prog_26_method_5_code 40 = .ok (.iload_n 3, 1) := by decide +kernel
theorem slt_d41 : decode prog_26_method_5_code 41 = .ok (.iand, 1) := by decide +kernel
theorem slt_d42 : decode prog_26_method_5_code 42 = .ok (.istore 4, 2) := by decide +kernel
theorem slt_d44 : decode prog_26_method_5_code 44 = .ok (.goto (-30), 3) := by decide +kernel
theorem slt_d47 : decode prog_26_method_5_code 47 = .ok (.iload 4, 2) := by decide +kernel
theorem slt_d49 : decode prog_26_method_5_code 49 = .ok (.ireturn, 1) := by decide +kernel
theorem slt_pn : plainName "com/example/auditspur/auditspur/core/store/Postings" = true := by first | (simp [plainName, overriddenIn]; done) | decide +kernel
theorem slt_ef (m : MethodId) (x0 : Addr) (x1 : Int64) : entryFrame m #[(.ref x0), (.long x1)] 5 = mkF m 0 #[.val (.ref x0), .val (.long x1), .second, .unset, .unset] [] := by first | (simp [entryFrame, mkF, argsToLocals, Value.category]; done) | rfl
set_option maxRecDepth 65536 in
set_option maxHeartbeats 40000000 in
theorem rm_slt (l : Launch) (Z : State) (a0 : Array Value) (hw : ∀ d ∈ tables_1, d.before a0 Z = true) (ws : List Jvm.Cond) (r0 : Addr) (q1 : Int64) (bH bD bE bN : Addr) (fH : Nat → Int64) (fD fE fN : Nat → Int32) (wc wp : Int32) (k r : Nat) (h0 : Heap) (n0 : Nat) (Z0 : n0 ≤ h0.size) (E0 : Exa Z h0 r0 "com/example/auditspur/auditspur/core/store/Postings") (F_hashes : Fld Z h0 r0 "com/example/auditspur/auditspur/core/store/Postings" "hashes" "[J" (.ref bH)) (F_heads : Fld Z h0 r0 "com/example/auditspur/auditspur/core/store/Postings" "heads" "[I" (.ref bD)) (F_events : Fld Z h0 r0 "com/example/auditspur/auditspur/core/store/Postings" "events" "[I" (.ref bE)) (F_next : Fld Z h0 r0 "com/example/auditspur/auditspur/core/store/Postings" "next" "[I" (.ref bN)) (V_hashes : JA Z h0 bH 1024 fH) (V_heads : IA Z h0 bD .int 1024 fD) (V_events : IA Z h0 bE .int 1024 fE) (V_next : IA Z h0 bN .int 1024 fN) (F_codes : Fld Z h0 r0 "com/example/auditspur/auditspur/core/store/Postings" "codes" "I" (.int wc)) (F_postings : Fld Z h0 r0 "com/example/auditspur/auditspur/core/store/Postings" "postings" "I" (.int wp)) (hsl : slotEnd fD fH q1 k (idx q1) r) :
    MetFree l (⟨"com/example/auditspur/auditspur/core/store/Postings", "slot", "(J)I"⟩ : MethodName) (head1 (Jvm.Cond.code (⟨"com/example/auditspur/auditspur/core/store/Postings", "slot", "(J)I"⟩ : MethodName) prog_26_method_5_code 5 (some .int) :: ws) ({ frames := 0, cells := 0, slots := 0, locals := 0 } : Room)) (fun a U => a = #[(.ref r0), (.long q1)] ∧ Z.Warmed39 U.vm ∧ U.heap = h0) (fun _ _ _ _ _ => True) (fun _ U o U' => ∃ v L, o = .returned v ∧ QP (.int (Int32.ofNat r)) h0 n0 v U'.heap L ∧ FrameEnd U o U' L ({ frames := 0, cells := 0, slots := 0, locals := 0 } : Room).cells ({ frames := 0, cells := 0, slots := 0, locals := 0 } : Room).slots) := by
  refine MetFree.of_bodySF (plainFor_of_name slt_pn) hisR ?_
  intro p e s m args below meth c s₁ Bd hml0 hP hK
  obtain ⟨rfl, hZ, hh⟩ := hP
  have hx := Bd.exec
  have hby := Bd.bytes
  have hml : c.maxLocals = 5 := hml0
  have hown : s.vm.findClass "com/example/auditspur/auditspur/core/store/Postings" = some m.cls := findClass_of_methodNamed Bd.named
  have hnm := (name_of_methodNamed Bd.named Bd.method).1
  have X0 : Stand p l e ({ frames := 0, cells := 0, slots := 0, locals := 0 } : Room) s m #[(.ref r0), (.long q1)] below meth c s₁ [] 0 0 := Stand.of_body Bd
  have e0 : s₁.heap = h0 := by rw [← hh, Bd.state]; rfl
  have N0 := Fr.nil n0
  obtain ⟨P0, hP0⟩ : ∃ P0 : State → Prop, P0 = fun t => Steps p.tables e below (s₁.setTop (entryFrame m #[(.ref r0), (.long q1)] 5)) t := ⟨_, rfl⟩
  have K0 : ∀ t, Steps p.tables e below (s₁.setTop (mkF m 0 #[.val (.ref r0), .val (.long q1), .second, .unset, .unset] [])) t → P0 t := by
    intro t k; rw [hP0]; exact castTop (slt_ef m r0 q1) k
  obtain ⟨T1, X1, e1, st1⟩ := getF X0 hx hZ hown (host := "") (Or.inl (hw _ (List.mem_of_getElem? (i := 15) rfl))) Via.refl e0 F_heads (g := (mkF m 1 #[.val (.ref r0), .val (.long q1), .second, .unset, .unset] [(.ref r0)])) rfl rfl (hb hby slt_d1)
  have K2 : ∀ t, Steps p.tables e below (T1.setTop (mkF m 8 #[.val (.ref r0), .val (.long q1), .second, .val (.int ((1024 : Int32) - (1 : Int32))), .unset] [])) t → P0 t := by
    intro t kt
    refine K0 t ?_
    show Steps p.tables e below (s₁.setTop (mkF m 0 #[.val (.ref r0), .val (.long q1), .second, .unset, .unset] [])) t
    refine XS.aloadN X0.here hx rfl (hb hby slt_d0) rfl rfl ?_
    show Steps p.tables e below (s₁.setTop (mkF m 1 #[.val (.ref r0), .val (.long q1), .second, .unset, .unset] [(.ref r0)])) t
    refine st1 _ ?_
    show Steps p.tables e below (T1.setTop (mkF m 4 #[.val (.ref r0), .val (.long q1), .second, .unset, .unset] [(.ref bD)])) t
    refine lnIA X1 hx hZ e1 V_heads (z := (1024 : Int32)) (by decide) (g := (mkF m 4 #[.val (.ref r0), .val (.long q1), .second, .unset, .unset] [(.ref bD)])) rfl rfl (hb hby slt_d4) _ ?_
    show Steps p.tables e below (T1.setTop (mkF m 5 #[.val (.ref r0), .val (.long q1), .second, .unset, .unset] [(.int (1024 : Int32))])) t
    refine XS.iconst X1.here hx rfl (hb hby slt_d5) ?_
    show Steps p.tables e below (T1.setTop (mkF m 6 #[.val (.ref r0), .val (.long q1), .second, .unset, .unset] [(.int (1 : Int32)), (.int (1024 : Int32))])) t
    refine XS.isub X1.here hx rfl (hb hby slt_d6) rfl ?_
    show Steps p.tables e below (T1.setTop (mkF m 7 #[.val (.ref r0), .val (.long q1), .second, .unset, .unset] [(.int ((1024 : Int32) - (1 : Int32)))])) t
    refine XS.istoreN X1.here hx rfl (hb hby slt_d7) rfl (l' := #[.val (.ref r0), .val (.long q1), .second, .val (.int ((1024 : Int32) - (1 : Int32))), .unset]) rfl ?_
    exact kt
  obtain ⟨v7, hv7, K3⟩ : ∃ v7 : Int32, v7 = ((1024 : Int32) - (1 : Int32)) ∧ ∀ t, Steps p.tables e below (T1.setTop (mkF m 8 #[.val (.ref r0), .val (.long q1), .second, .val (.int v7), .unset] [])) t → P0 t := ⟨_, rfl, K2⟩
  have K4 : ∀ t, Steps p.tables e below (T1.setTop (mkF m 14 #[.val (.ref r0), .val (.long q1), .second, .val (.int v7), .val (.int ((q1.toInt32) &&& v7))] [])) t → P0 t := by
    intro t kt
    refine K3 t ?_
    show Steps p.tables e below (T1.setTop (mkF m 8 #[.val (.ref r0), .val (.long q1), .second, .val (.int v7), .unset] [])) t
    refine XS.lloadN X1.here hx rfl (hb hby slt_d8) rfl ?_
    show Steps p.tables e below (T1.setTop (mkF m 9 #[.val (.ref r0), .val (.long q1), .second, .val (.int v7), .unset] [(.long q1)])) t
    refine XS.l2i X1.here hx rfl (hb hby slt_d9) rfl ?_
    show Steps p.tables e below (T1.setTop (mkF m 10 #[.val (.ref r0), .val (.long q1), .second, .val (.int v7), .unset] [(.int (q1.toInt32))])) t
    refine XS.iloadN X1.here hx rfl (hb hby slt_d10) rfl ?_
    show Steps p.tables e below (T1.setTop (mkF m 11 #[.val (.ref r0), .val (.long q1), .second, .val (.int v7), .unset] [(.int v7), (.int (q1.toInt32))])) t
    refine XS.iand X1.here hx rfl (hb hby slt_d11) rfl ?_
    show Steps p.tables e below (T1.setTop (mkF m 12 #[.val (.ref r0), .val (.long q1), .second, .val (.int v7), .unset] [(.int ((q1.toInt32) &&& v7))])) t
    refine XS.istore X1.here hx rfl (hb hby slt_d12) rfl (l' := #[.val (.ref r0), .val (.long q1), .second, .val (.int v7), .val (.int ((q1.toInt32) &&& v7))]) rfl ?_
    exact kt
  obtain ⟨v12, hv12, K5⟩ : ∃ v12 : Int32, v12 = ((q1.toInt32) &&& v7) ∧ ∀ t, Steps p.tables e below (T1.setTop (mkF m 14 #[.val (.ref r0), .val (.long q1), .second, .val (.int v7), .val (.int v12)] [])) t → P0 t := ⟨_, rfl, K4⟩
  have hm3 : v7 = (1023 : Int32) := by rw [hv7]; decide
  have KL : ∀ (k i : Nat) (z4 : Int32) (T : State), z4 = Int32.ofNat i → slotEnd fD fH q1 k i r → Stand p l e ({ frames := 0, cells := 0, slots := 0, locals := 0 } : Room) s m #[(.ref r0), (.long q1)] below meth c T [] 0 0 → T.heap = h0 → ∃ T', Stand p l e ({ frames := 0, cells := 0, slots := 0, locals := 0 } : Room) s m #[(.ref r0), (.long q1)] below meth c T' [] 0 0 ∧ T'.heap = h0 ∧ ∀ t, Steps p.tables e below (T'.setTop (mkF m 47 #[.val (.ref r0), .val (.long q1), .second, .val (.int v7), .val (.int (Int32.ofNat r))] [])) t → Steps p.tables e below (T.setTop (mkF m 14 #[.val (.ref r0), .val (.long q1), .second, .val (.int v7), .val (.int z4)] [])) t := by
    intro k; induction k with
    | zero =>
      intro i z4 T h4 hsl X eT
      subst h4
      obtain ⟨hri, hi, hor⟩ := hsl
      rw [hri]
      obtain ⟨P1, hP1⟩ : ∃ P : State → Prop, P = fun t => Steps p.tables e below (T.setTop (mkF m 14 #[.val (.ref r0), .val (.long q1), .second, .val (.int v7), .val (.int (Int32.ofNat i))] [])) t := ⟨_, rfl⟩
      have KP : ∀ t, Steps p.tables e below (T.setTop (mkF m 14 #[.val (.ref r0), .val (.long q1), .second, .val (.int v7), .val (.int (Int32.ofNat i))] [])) t → P1 t := by rw [hP1]; exact fun t k => k
      have hin : ¬ ((Int32.ofNat i) < 0 ∨ 1024 ≤ (Int32.ofNat i).toNatClampNeg) := own_ofNat_in hi (by decide)
      have hni : (Int32.ofNat i).toNatClampNeg = i := own_ofNat_nat (by omega)
      by_cases h0i : (fD ((Int32.ofNat i)).toNatClampNeg) = (0 : Int32)
      · skip
        obtain ⟨T6, X6, e6, st6⟩ := getF X hx hZ hown (host := "") (Or.inl (hw _ (List.mem_of_getElem? (i := 15) rfl))) Via.refl eT F_heads (g := (mkF m 15 #[.val (.ref r0), .val (.long q1), .second, .val (.int v7), .val (.int (Int32.ofNat i))] [(.ref r0)])) rfl rfl (hb hby slt_d15)
        have K7 : ∀ t, Steps p.tables e below (T6.setTop (mkF m 47 #[.val (.ref r0), .val (.long q1), .second, .val (.int v7), .val (.int (Int32.ofNat i))] [])) t → P1 t := by
          intro t kt
          refine KP t ?_
          show Steps p.tables e below (T.setTop (mkF m 14 #[.val (.ref r0), .val (.long q1), .second, .val (.int v7), .val (.int (Int32.ofNat i))] [])) t
          refine XS.aloadN X.here hx rfl (hb hby slt_d14) rfl rfl ?_
          show Steps p.tables e below (T.setTop (mkF m 15 #[.val (.ref r0), .val (.long q1), .second, .val (.int v7), .val (.int (Int32.ofNat i))] [(.ref r0)])) t
          refine st6 _ ?_
          show Steps p.tables e below (T6.setTop (mkF m 18 #[.val (.ref r0), .val (.long q1), .second, .val (.int v7), .val (.int (Int32.ofNat i))] [(.ref bD)])) t
          refine XS.iload X6.here hx rfl (hb hby slt_d18) rfl ?_
          show Steps p.tables e below (T6.setTop (mkF m 20 #[.val (.ref r0), .val (.long q1), .second, .val (.int v7), .val (.int (Int32.ofNat i))] [(.int (Int32.ofNat i)), (.ref bD)])) t
          refine ldIA X6 hx hZ e6 V_heads (j := (Int32.ofNat i)) hin (g := (mkF m 20 #[.val (.ref r0), .val (.long q1), .second, .val (.int v7), .val (.int (Int32.ofNat i))] [(.int (Int32.ofNat i)), (.ref bD)])) rfl rfl (hb hby slt_d20) _ ?_
          show Steps p.tables e below (T6.setTop (mkF m 21 #[.val (.ref r0), .val (.long q1), .second, .val (.int v7), .val (.int (Int32.ofNat i))] [(.int (fD ((Int32.ofNat i)).toNatClampNeg))])) t
          refine XS.ifYes X6.here hx rfl (pc0 := 21) (pc' := 47) rfl (hb hby slt_d21) rfl ((if0 _ _).trans (teq h0i).1) (by decide) (by decide) ?_
          exact kt
        rw [hP1] at K7
        exact ⟨T6, X6, e6, K7⟩
      · have h1i : (fH ((Int32.ofNat i)).toNatClampNeg) = q1 := by
          rw [hni] at h0i ⊢; exact hor.resolve_left h0i
        obtain ⟨T8, X8, e8, st8⟩ := getF X hx hZ hown (host := "") (Or.inl (hw _ (List.mem_of_getElem? (i := 15) rfl))) Via.refl eT F_heads (g := (mkF m 15 #[.val (.ref r0), .val (.long q1), .second, .val (.int v7), .val (.int (Int32.ofNat i))] [(.ref r0)])) rfl rfl (hb hby slt_d15)
        obtain ⟨T9, X9, e9, st9⟩ := getF X8 hx hZ hown (host := "") (Or.inl (hw _ (List.mem_of_getElem? (i := 12) rfl))) Via.refl e8 F_hashes (g := (mkF m 25 #[.val (.ref r0), .val (.long q1), .second, .val (.int v7), .val (.int (Int32.ofNat i))] [(.ref r0)])) rfl rfl (hb hby slt_d25)
        have K10 : ∀ t, Steps p.tables e below (T9.setTop (mkF m 47 #[.val (.ref r0), .val (.long q1), .second, .val (.int v7), .val (.int (Int32.ofNat i))] [])) t → P1 t := by
          intro t kt
          refine KP t ?_
          show Steps p.tables e below (T.setTop (mkF m 14 #[.val (.ref r0), .val (.long q1), .second, .val (.int v7), .val (.int (Int32.ofNat i))] [])) t
          refine XS.aloadN X.here hx rfl (hb hby slt_d14) rfl rfl ?_
          show Steps p.tables e below (T.setTop (mkF m 15 #[.val (.ref r0), .val (.long q1), .second, .val (.int v7), .val (.int (Int32.ofNat i))] [(.ref r0)])) t
          refine st8 _ ?_
          show Steps p.tables e below (T8.setTop (mkF m 18 #[.val (.ref r0), .val (.long q1), .second, .val (.int v7), .val (.int (Int32.ofNat i))] [(.ref bD)])) t
          refine XS.iload X8.here hx rfl (hb hby slt_d18) rfl ?_
          show Steps p.tables e below (T8.setTop (mkF m 20 #[.val (.ref r0), .val (.long q1), .second, .val (.int v7), .val (.int (Int32.ofNat i))] [(.int (Int32.ofNat i)), (.ref bD)])) t
          refine ldIA X8 hx hZ e8 V_heads (j := (Int32.ofNat i)) hin (g := (mkF m 20 #[.val (.ref r0), .val (.long q1), .second, .val (.int v7), .val (.int (Int32.ofNat i))] [(.int (Int32.ofNat i)), (.ref bD)])) rfl rfl (hb hby slt_d20) _ ?_
          show Steps p.tables e below (T8.setTop (mkF m 21 #[.val (.ref r0), .val (.long q1), .second, .val (.int v7), .val (.int (Int32.ofNat i))] [(.int (fD ((Int32.ofNat i)).toNatClampNeg))])) t
          refine XS.ifNo X8.here hx rfl (hb hby slt_d21) rfl ((if0 _ _).trans (feq h0i).1) ?_
          show Steps p.tables e below (T8.setTop (mkF m 24 #[.val (.ref r0), .val (.long q1), .second, .val (.int v7), .val (.int (Int32.ofNat i))] [])) t
          refine XS.aloadN X8.here hx rfl (hb hby slt_d24) rfl rfl ?_
          show Steps p.tables e below (T8.setTop (mkF m 25 #[.val (.ref r0), .val (.long q1), .second, .val (.int v7), .val (.int (Int32.ofNat i))] [(.ref r0)])) t
          refine st9 _ ?_
          show Steps p.tables e below (T9.setTop (mkF m 28 #[.val (.ref r0), .val (.long q1), .second, .val (.int v7), .val (.int (Int32.ofNat i))] [(.ref bH)])) t
          refine XS.iload X9.here hx rfl (hb hby slt_d28) rfl ?_
          show Steps p.tables e below (T9.setTop (mkF m 30 #[.val (.ref r0), .val (.long q1), .second, .val (.int v7), .val (.int (Int32.ofNat i))] [(.int (Int32.ofNat i)), (.ref bH)])) t
          refine ldJA X9 hx hZ e9 V_hashes (j := (Int32.ofNat i)) hin (g := (mkF m 30 #[.val (.ref r0), .val (.long q1), .second, .val (.int v7), .val (.int (Int32.ofNat i))] [(.int (Int32.ofNat i)), (.ref bH)])) rfl rfl (hb hby slt_d30) _ ?_
          show Steps p.tables e below (T9.setTop (mkF m 31 #[.val (.ref r0), .val (.long q1), .second, .val (.int v7), .val (.int (Int32.ofNat i))] [(.long (fH ((Int32.ofNat i)).toNatClampNeg))])) t
          refine XS.lloadN X9.here hx rfl (hb hby slt_d31) rfl ?_
          show Steps p.tables e below (T9.setTop (mkF m 32 #[.val (.ref r0), .val (.long q1), .second, .val (.int v7), .val (.int (Int32.ofNat i))] [(.long q1), (.long (fH ((Int32.ofNat i)).toNatClampNeg))])) t
          refine XS.lcmp X9.here hx rfl (hb hby slt_d32) rfl ?_
          show Steps p.tables e below (T9.setTop (mkF m 33 #[.val (.ref r0), .val (.long q1), .second, .val (.int v7), .val (.int (Int32.ofNat i))] [(.int (lcmpW (fH ((Int32.ofNat i)).toNatClampNeg) q1))])) t
          refine XS.ifYes X9.here hx rfl (pc0 := 33) (pc' := 47) rfl (hb hby slt_d33) rfl ((if0 _ _).trans (teq ((lw_eq (fH ((Int32.ofNat i)).toNatClampNeg) q1).mpr h1i)).1) (by decide) (by decide) ?_
          exact kt
        rw [hP1] at K10
        exact ⟨T9, X9, e9, K10⟩
    | succ k ih =>
      intro i z4 T h4 hsl X eT
      subst h4
      obtain ⟨hi, hd, hh, hrest⟩ := hsl
      obtain ⟨P1, hP1⟩ : ∃ P : State → Prop, P = fun t => Steps p.tables e below (T.setTop (mkF m 14 #[.val (.ref r0), .val (.long q1), .second, .val (.int v7), .val (.int (Int32.ofNat i))] [])) t := ⟨_, rfl⟩
      have KP : ∀ t, Steps p.tables e below (T.setTop (mkF m 14 #[.val (.ref r0), .val (.long q1), .second, .val (.int v7), .val (.int (Int32.ofNat i))] [])) t → P1 t := by rw [hP1]; exact fun t k => k
      have hin : ¬ ((Int32.ofNat i) < 0 ∨ 1024 ≤ (Int32.ofNat i).toNatClampNeg) := own_ofNat_in hi (by decide)
      have hni : (Int32.ofNat i).toNatClampNeg = i := own_ofNat_nat (by omega)
      have h0i : ¬ (fD ((Int32.ofNat i)).toNatClampNeg) = (0 : Int32) := by rw [hni]; exact hd
      have h1i : ¬ (fH ((Int32.ofNat i)).toNatClampNeg) = q1 := by rw [hni]; exact hh
      obtain ⟨T11, X11, e11, st11⟩ := getF X hx hZ hown (host := "") (Or.inl (hw _ (List.mem_of_getElem? (i := 15) rfl))) Via.refl eT F_heads (g := (mkF m 15 #[.val (.ref r0), .val (.long q1), .second, .val (.int v7), .val (.int (Int32.ofNat i))] [(.ref r0)])) rfl rfl (hb hby slt_d15)
      obtain ⟨T12, X12, e12, st12⟩ := getF X11 hx hZ hown (host := "") (Or.inl (hw _ (List.mem_of_getElem? (i := 12) rfl))) Via.refl e11 F_hashes (g := (mkF m 25 #[.val (.ref r0), .val (.long q1), .second, .val (.int v7), .val (.int (Int32.ofNat i))] [(.ref r0)])) rfl rfl (hb hby slt_d25)
      have K13 : ∀ t, Steps p.tables e below (T12.setTop (mkF m 14 #[.val (.ref r0), .val (.long q1), .second, .val (.int v7), .val (.int (((Int32.ofNat i) + (1 : Int32)) &&& v7))] [])) t → P1 t := by
        intro t kt
        refine KP t ?_
        show Steps p.tables e below (T.setTop (mkF m 14 #[.val (.ref r0), .val (.long q1), .second, .val (.int v7), .val (.int (Int32.ofNat i))] [])) t
        refine XS.aloadN X.here hx rfl (hb hby slt_d14) rfl rfl ?_
        show Steps p.tables e below (T.setTop (mkF m 15 #[.val (.ref r0), .val (.long q1), .second, .val (.int v7), .val (.int (Int32.ofNat i))] [(.ref r0)])) t
        refine st11 _ ?_
        show Steps p.tables e below (T11.setTop (mkF m 18 #[.val (.ref r0), .val (.long q1), .second, .val (.int v7), .val (.int (Int32.ofNat i))] [(.ref bD)])) t
        refine XS.iload X11.here hx rfl (hb hby slt_d18) rfl ?_
        show Steps p.tables e below (T11.setTop (mkF m 20 #[.val (.ref r0), .val (.long q1), .second, .val (.int v7), .val (.int (Int32.ofNat i))] [(.int (Int32.ofNat i)), (.ref bD)])) t
        refine ldIA X11 hx hZ e11 V_heads (j := (Int32.ofNat i)) hin (g := (mkF m 20 #[.val (.ref r0), .val (.long q1), .second, .val (.int v7), .val (.int (Int32.ofNat i))] [(.int (Int32.ofNat i)), (.ref bD)])) rfl rfl (hb hby slt_d20) _ ?_
        show Steps p.tables e below (T11.setTop (mkF m 21 #[.val (.ref r0), .val (.long q1), .second, .val (.int v7), .val (.int (Int32.ofNat i))] [(.int (fD ((Int32.ofNat i)).toNatClampNeg))])) t
        refine XS.ifNo X11.here hx rfl (hb hby slt_d21) rfl ((if0 _ _).trans (feq h0i).1) ?_
        show Steps p.tables e below (T11.setTop (mkF m 24 #[.val (.ref r0), .val (.long q1), .second, .val (.int v7), .val (.int (Int32.ofNat i))] [])) t
        refine XS.aloadN X11.here hx rfl (hb hby slt_d24) rfl rfl ?_
        show Steps p.tables e below (T11.setTop (mkF m 25 #[.val (.ref r0), .val (.long q1), .second, .val (.int v7), .val (.int (Int32.ofNat i))] [(.ref r0)])) t
        refine st12 _ ?_
        show Steps p.tables e below (T12.setTop (mkF m 28 #[.val (.ref r0), .val (.long q1), .second, .val (.int v7), .val (.int (Int32.ofNat i))] [(.ref bH)])) t
        refine XS.iload X12.here hx rfl (hb hby slt_d28) rfl ?_
        show Steps p.tables e below (T12.setTop (mkF m 30 #[.val (.ref r0), .val (.long q1), .second, .val (.int v7), .val (.int (Int32.ofNat i))] [(.int (Int32.ofNat i)), (.ref bH)])) t
        refine ldJA X12 hx hZ e12 V_hashes (j := (Int32.ofNat i)) hin (g := (mkF m 30 #[.val (.ref r0), .val (.long q1), .second, .val (.int v7), .val (.int (Int32.ofNat i))] [(.int (Int32.ofNat i)), (.ref bH)])) rfl rfl (hb hby slt_d30) _ ?_
        show Steps p.tables e below (T12.setTop (mkF m 31 #[.val (.ref r0), .val (.long q1), .second, .val (.int v7), .val (.int (Int32.ofNat i))] [(.long (fH ((Int32.ofNat i)).toNatClampNeg))])) t
        refine XS.lloadN X12.here hx rfl (hb hby slt_d31) rfl ?_
        show Steps p.tables e below (T12.setTop (mkF m 32 #[.val (.ref r0), .val (.long q1), .second, .val (.int v7), .val (.int (Int32.ofNat i))] [(.long q1), (.long (fH ((Int32.ofNat i)).toNatClampNeg))])) t
        refine XS.lcmp X12.here hx rfl (hb hby slt_d32) rfl ?_
        show Steps p.tables e below (T12.setTop (mkF m 33 #[.val (.ref r0), .val (.long q1), .second, .val (.int v7), .val (.int (Int32.ofNat i))] [(.int (lcmpW (fH ((Int32.ofNat i)).toNatClampNeg) q1))])) t
        refine XS.ifNo X12.here hx rfl (hb hby slt_d33) rfl ((if0 _ _).trans (feq (fun q => h1i ((lw_eq (fH ((Int32.ofNat i)).toNatClampNeg) q1).mp q))).1) ?_
        show Steps p.tables e below (T12.setTop (mkF m 36 #[.val (.ref r0), .val (.long q1), .second, .val (.int v7), .val (.int (Int32.ofNat i))] [])) t
        refine XS.iload X12.here hx rfl (hb hby slt_d36) rfl ?_
        show Steps p.tables e below (T12.setTop (mkF m 38 #[.val (.ref r0), .val (.long q1), .second, .val (.int v7), .val (.int (Int32.ofNat i))] [(.int (Int32.ofNat i))])) t
        refine XS.iconst X12.here hx rfl (hb hby slt_d38) ?_
        show Steps p.tables e below (T12.setTop (mkF m 39 #[.val (.ref r0), .val (.long q1), .second, .val (.int v7), .val (.int (Int32.ofNat i))] [(.int (1 : Int32)), (.int (Int32.ofNat i))])) t
        refine XS.iadd X12.here hx rfl (hb hby slt_d39) rfl ?_
        show Steps p.tables e below (T12.setTop (mkF m 40 #[.val (.ref r0), .val (.long q1), .second, .val (.int v7), .val (.int (Int32.ofNat i))] [(.int ((Int32.ofNat i) + (1 : Int32)))])) t
        refine XS.iloadN X12.here hx rfl (hb hby slt_d40) rfl ?_
        show Steps p.tables e below (T12.setTop (mkF m 41 #[.val (.ref r0), .val (.long q1), .second, .val (.int v7), .val (.int (Int32.ofNat i))] [(.int v7), (.int ((Int32.ofNat i) + (1 : Int32)))])) t
        refine XS.iand X12.here hx rfl (hb hby slt_d41) rfl ?_
        show Steps p.tables e below (T12.setTop (mkF m 42 #[.val (.ref r0), .val (.long q1), .second, .val (.int v7), .val (.int (Int32.ofNat i))] [(.int (((Int32.ofNat i) + (1 : Int32)) &&& v7))])) t
        refine XS.istore X12.here hx rfl (hb hby slt_d42) rfl (l' := #[.val (.ref r0), .val (.long q1), .second, .val (.int v7), .val (.int (((Int32.ofNat i) + (1 : Int32)) &&& v7))]) rfl ?_
        show Steps p.tables e below (T12.setTop (mkF m 44 #[.val (.ref r0), .val (.long q1), .second, .val (.int v7), .val (.int (((Int32.ofNat i) + (1 : Int32)) &&& v7))] [])) t
        refine XS.goto X12.here hx rfl (pc0 := 44) (pc' := 14) rfl (hb hby slt_d44) (by decide) (by decide) ?_
        exact kt
      rw [hP1] at K13
      obtain ⟨T', X', e', K'⟩ := ih ((i + 1) % 1024) ((Int32.ofNat i + (1 : Int32)) &&& v7) T12 (by rw [hm3]; exact own_wrap hi) hrest X12 e12
      exact ⟨T', X', e', fun t kt => K13 t (K' t kt)⟩
  obtain ⟨TR, XR, eR, KR⟩ := KL k (idx q1) v12 T1 (by rw [hv12, hm3]; exact own_idx_eq q1) hsl X1 e1
  have KZ : ∀ t, Steps p.tables e below (TR.setTop (mkF m 47 #[.val (.ref r0), .val (.long q1), .second, .val (.int v7), .val (.int (Int32.ofNat r))] [])) t → P0 t := fun t kt => K5 t (KR t kt)
  have K14 : ∀ t, Steps p.tables e below (TR.setTop (mkF m 49 #[.val (.ref r0), .val (.long q1), .second, .val (.int v7), .val (.int (Int32.ofNat r))] [(.int (Int32.ofNat r))])) t → P0 t := by
    intro t kt
    refine KZ t ?_
    show Steps p.tables e below (TR.setTop (mkF m 47 #[.val (.ref r0), .val (.long q1), .second, .val (.int v7), .val (.int (Int32.ofNat r))] [])) t
    refine XS.iload XR.here hx rfl (hb hby slt_d47) rfl ?_
    exact kt
  obtain ⟨fs, hr, hrun, hended, hW, hsame⟩ := XR.leave (v := some (.int (Int32.ofNat r))) (fun h => by rw [Bd.returns] at h; cases h)
  refine ⟨_, _, ?_, hrun, hended, _, _, rfl, ?_, ⟨_, rfl⟩, hW, hsame.mono (by decide) (by decide)⟩
  · skip
    have q := K14 _ (retI XR hx Bd.returns (hb hby slt_d49) hr)
    rw [hP0] at q; exact q
  · show QP _ h0 n0 _ TR.heap _
    rw [eR]
    exact ⟨rfl, N0, rfl⟩
theorem own_np {wp : Int32} {np : Nat} (hwp : wp = Int32.ofNat np) (hnp : np < 1000) : ¬ wp = (1024 : Int32) := by
  intro q; have := congrArg Int32.toNatClampNeg q; rw [hwp, own_ofNat_nat (by omega)] at this
  have e : (1024 : Int32).toNatClampNeg = 1024 := by decide
  omega
theorem own_load {wc j : Int32} {c : Prop} [Decidable c] (hwc : 0 ≤ wc.toInt ∧ wc.toInt ≤ 700) (hj : j = (if c then (wc + (1 : Int32)) else wc)) : ¬ (((1024 : Int32).toInt64) * (3 : Int64)) < ((j.toInt64) * (4 : Int64)) := by
  have e1 : (1 : Int32).toInt = 1 := by decide
  have k := c_iadd wc 1; have r := rng32 (wc + 1); rw [e1] at k
  have hb : 0 ≤ j.toInt ∧ j.toInt ≤ 701 := by
    rw [hj]; split <;> omega
  have e3 : (((1024 : Int32).toInt64) * (3 : Int64)).toInt = 3072 := by decide
  have m := c_lmul j.toInt64 4; have r2 := rng64 (j.toInt64 * 4); have e4 : (4 : Int64).toInt = 4 := by decide
  rw [Int32.toInt_toInt64, e4] at m
  rw [Int64.lt_iff_toInt_lt, e3]; omega
theorem add_d0 : decode prog_26_method_3_code 0 = .ok (.aload_n 0, 1) := by decide +kernel
theorem add_d1 : decode prog_26_method_3_code 1 = .ok (.getfield 41, 3) := by decide +kernel
theorem add_d4 : decode prog_26_method_3_code 4 = .ok (.aload_n 0, 1) := by decide +kernel
theorem add_d5 : decode prog_26_method_3_code 5 = .ok (.getfield 17, 3) := by decide +kernel
theorem add_d8 : decode prog_26_method_3_code 8 = .ok (.arraylength, 1) := by decide +kernel
theorem add_d9 : decode prog_26_method_3_code 9 = .ok (.if_icmp .ne 39, 3) := by decide +kernel
theorem add_d48 : decode prog_26_method_3_code 48 = .ok (.aload_n 0, 1) := by decide +kernel
theorem add_d49 : decode prog_26_method_3_code 49 = .ok (.lload_n 1, 1) := by decide +kernel
theorem add_d50 : decode prog_26_method_3_code 50 = .ok (.invokevirtual 51, 3) := by decide +kernel
theorem add_d53 : decode prog_26_method_3_code 53 = .ok (.istore 4, 2) := by decide +kernel
theorem add_d55 : decode prog_26_method_3_code 55 = .ok (.aload_n 0, 1) := by decide +kernel
theorem add_d56 : decode prog_26_method_3_code 56 = .ok (.getfield 13, 3) := by decide +kernel
theorem add_d59 : decode prog_26_method_3_code 59 = .ok (.iload 4, 2) := by decide +kernel
theorem add_d61 : decode prog_26_method_3_code 61 = .ok (.iaload, 1) := by decide +kernel
theorem add_d62 : decode prog_26_method_3_code 62 = .ok (.ifCond .ne 21, 3) := by decide +kernel
theorem add_d65 : decode prog_26_method_3_code 65 = .ok (.aload_n 0, 1) := by decide +kernel
theorem add_d66 : decode prog_26_method_3_code 66 = .ok (.getfield 9, 3) := by decide +kernel
theorem add_d69 : decode prog_26_method_3_code 69 = .ok (.iload 4, 2) := by decide +kernel
theorem add_d71 : decode prog_26_method_3_code 71 = .ok (.lload_n 1, 1) := by decide +kernel
theorem add_d72 : decode prog_26_method_3_code 72 = .ok (.lastore, 1) := by decide +kernel
theorem add_d73 : decode prog_26_method_3_code 73 = .ok (.aload_n 0, 1) := by decide +kernel
theorem add_d74 : decode prog_26_method_3_code 74 = .ok (.dup, 1) := by decide +kernel
theorem add_d75 : decode prog_26_method_3_code 75 = .ok (.getfield 55, 3) := by decide +kernel
theorem add_d78 : decode prog_26_method_3_code 78 = .ok (.iconst 1, 1) := by decide +kernel
theorem add_d79 : decode prog_26_method_3_code 79 = .ok (.iadd, 1) := by decide +kernel
theorem add_d80 : decode prog_26_method_3_code 80 = .ok (.putfield 55, 3) := by decide +kernel
theorem add_d83 : decode prog_26_method_3_code 83 = .ok (.aload_n 0, 1) := by decide +kernel
theorem add_d84 : decode prog_26_method_3_code 84 = .ok (.getfield 17, 3) := by decide +kernel
theorem add_d87 : decode prog_26_method_3_code 87 = .ok (.aload_n 0, 1) := by decide +kernel
theorem add_d88 : decode prog_26_method_3_code 88 = .ok (.getfield 41, 3) := by decide +kernel
theorem add_d91 : decode prog_26_method_3_code 91 = .ok (.iload_n 3, 1) := by decide +kernel
theorem add_d92 : decode prog_26_method_3_code 92 = .ok (.iastore, 1) := by decide +kernel
theorem add_d93 : decode prog_26_method_3_code 93 = .ok (.aload_n 0, 1) := by decide +kernel
theorem add_d94 : decode prog_26_method_3_code 94 = .ok (.getfield 20, 3) := by decide +kernel
theorem add_d97 : decode prog_26_method_3_code 97 = .ok (.aload_n 0, 1) := by decide +kernel
theorem add_d98 : decode prog_26_method_3_code 98 = .ok (.getfield 41, 3) := by decide +kernel
theorem add_d101 : decode prog_26_method_3_code 101 = .ok (.aload_n 0, 1) := by decide +kernel
theorem add_d102 : decode prog_26_method_3_code 102 = .ok (.getfield 13, 3) := by decide +kernel
theorem add_d105 : decode prog_26_method_3_code 105 = .ok (.iload 4, 2) := by decide +kernel
theorem add_d107 : decode prog_26_method_3_code 107 = .ok (.iaload, 1) := by decide +kernel
theorem add_d108 : decode prog_26_method_3_code 108 = .ok (.iastore, 1) := by decide +kernel
theorem add_d109 : decode prog_26_method_3_code 109 = .ok (.aload_n 0, 1) := by decide +kernel
theorem add_d110 : decode prog_26_method_3_code 110 = .ok (.dup, 1) := by decide +kernel
theorem add_d111 : decode prog_26_method_3_code 111 = .ok (.getfield 41, 3) := by decide +kernel
theorem add_d114 : decode prog_26_method_3_code 114 = .ok (.iconst 1, 1) := by decide +kernel
theorem add_d115 : decode prog_26_method_3_code 115 = .ok (.iadd, 1) := by decide +kernel
theorem add_d116 : decode prog_26_method_3_code 116 = .ok (.putfield 41, 3) := by decide +kernel
theorem add_d119 : decode prog_26_method_3_code 119 = .ok (.aload_n 0, 1) := by decide +kernel
theorem add_d120 : decode prog_26_method_3_code 120 = .ok (.getfield 13, 3) := by decide +kernel
theorem add_d123 : decode prog_26_method_3_code 123 = .ok (.iload 4, 2) := by decide +kernel
theorem add_d125 : decode prog_26_method_3_code 125 = .ok (.aload_n 0, 1) := by decide +kernel
theorem add_d126 : decode prog_26_method_3_code 126 = .ok (.getfield 41, 3) := by decide +kernel
theorem add_d129 : decode prog_26_method_3_code 129 = .ok (.iastore, 1) := by decide +kernel
theorem add_d130 : decode prog_26_method_3_code 130 = .ok (.aload_n 0, 1) := by decide +kernel
theorem add_d131 : decode prog_26_method_3_code 131 = .ok (.getfield 55, 3) := by decide +kernel
theorem add_d134 : decode prog_26_method_3_code 134 = .ok (.i2l, 1) := by decide +kernel
theorem add_d135 : decode prog_26_method_3_code 135 = .ok (.ldc2_w 58, 3) := by decide +kernel
theorem add_d138 : decode prog_26_method_3_code 138 = .ok (.lmul, 1) := by decide +kernel
theorem add_d139 : decode prog_26_method_3_code 139 = .ok (.aload_n 0, 1) := by decide +kernel
theorem add_d140 : decode prog_26_method_3_code 140 = .ok (.getfield 13, 3) := by decide +kernel
theorem add_d143 : decode prog_26_method_3_code 143 = .ok (.arraylength, 1) := by decide +kernel
theorem add_d144 : decode prog_26_method_3_code 144 = .ok (.i2l, 1) := by decide +kernel
theorem add_d145 : decode prog_26_method_3_code 145 = .ok (.ldc2_w 60, 3) := by decide +kernel
theorem add_d148 : decode prog_26_method_3_code 148 = .ok (.lmul, 1) := by decide +kernel
theorem add_d149 : decode prog_26_method_3_code 149 = .ok (.lcmp, 1) := by decide +kernel
theorem add_d150 : decode prog_26_method_3_code 150 = .ok (.ifCond .le 7, 3) := by decide +kernel
theorem add_d157 : decode prog_26_method_3_code 157 = .ok (.return_, 1) := by decide +kernel
theorem add_pn : plainName "com/example/auditspur/auditspur/core/store/Postings" = true := by first | (simp [plainName, overriddenIn]; done) | decide +kernel
theorem add_pd0 : parseMethodDescriptor "(J)I" = some ⟨[.long], some .int⟩ := by decide +kernel
theorem add_ef (m : MethodId) (x0 : Addr) (x1 : Int64) (x2 : Int32) : entryFrame m #[(.ref x0), (.long x1), (.int x2)] 5 = mkF m 0 #[.val (.ref x0), .val (.long x1), .second, .val (.int x2), .unset] [] := by first | (simp [entryFrame, mkF, argsToLocals, Value.category]; done) | rfl
set_option maxRecDepth 65536 in
set_option maxHeartbeats 40000000 in
theorem rm_add (l : Launch) (Z : State) (a0 : Array Value) (hw : ∀ d ∈ tables_1, d.before a0 Z = true) (ws : List Jvm.Cond) (r0 : Addr) (q1 : Int64) (p2 : Int32) (bH bD bE bN : Addr) (fH : Nat → Int64) (fD fE fN : Nat → Int32) (wc wp : Int32) (np k r : Nat) (h0 : Heap) (n0 : Nat) (Z0 : n0 ≤ h0.size) (E0 : Exa Z h0 r0 "com/example/auditspur/auditspur/core/store/Postings") (F_hashes : Fld Z h0 r0 "com/example/auditspur/auditspur/core/store/Postings" "hashes" "[J" (.ref bH)) (F_heads : Fld Z h0 r0 "com/example/auditspur/auditspur/core/store/Postings" "heads" "[I" (.ref bD)) (F_events : Fld Z h0 r0 "com/example/auditspur/auditspur/core/store/Postings" "events" "[I" (.ref bE)) (F_next : Fld Z h0 r0 "com/example/auditspur/auditspur/core/store/Postings" "next" "[I" (.ref bN)) (V_hashes : JA Z h0 bH 1024 fH) (V_heads : IA Z h0 bD .int 1024 fD) (V_events : IA Z h0 bE .int 1024 fE) (V_next : IA Z h0 bN .int 1024 fN) (F_codes : Fld Z h0 r0 "com/example/auditspur/auditspur/core/store/Postings" "codes" "I" (.int wc)) (F_postings : Fld Z h0 r0 "com/example/auditspur/auditspur/core/store/Postings" "postings" "I" (.int wp)) (n_bH : r0 ≠ bH) (n_bD : r0 ≠ bD) (n_bE : r0 ≠ bE) (n_bN : r0 ≠ bN) (n_bHbD : bH ≠ bD) (n_bHbE : bH ≠ bE) (n_bHbN : bH ≠ bN) (n_bDbE : bD ≠ bE) (n_bDbN : bD ≠ bN) (n_bEbN : bE ≠ bN) (g0 : n0 ≤ r0) (gbH : n0 ≤ bH) (gbD : n0 ≤ bD) (gbE : n0 ≤ bE) (gbN : n0 ≤ bN) (hwp : wp = Int32.ofNat np) (hnp : np < 1000) (hwc : 0 ≤ wc.toInt ∧ wc.toInt ≤ 700) (hsl : slotEnd fD fH q1 k (idx q1) r) :
    MetFree l (⟨"com/example/auditspur/auditspur/core/store/Postings", "add", "(JI)V"⟩ : MethodName) (head1 (Jvm.Cond.code (⟨"com/example/auditspur/auditspur/core/store/Postings", "add", "(JI)V"⟩ : MethodName) prog_26_method_3_code 5 none :: ws) ({ frames := 1, cells := 0, slots := 0, locals := 16 } : Room)) (fun a U => a = #[(.ref r0), (.long q1), (.int p2)] ∧ Z.Warmed39 U.vm ∧ U.heap = h0) (fun _ _ _ _ _ => True) (fun _ U o U' => ∃ v L, o = .returned v ∧ QA Z r0 bH bD bE bN q1 p2 fH fD fE fN wc wp np r h0 n0 v U'.heap L ∧ FrameEnd U o U' L ({ frames := 1, cells := 0, slots := 0, locals := 16 } : Room).cells ({ frames := 1, cells := 0, slots := 0, locals := 16 } : Room).slots) := by
  refine MetFree.of_bodySF (plainFor_of_name add_pn) hisR ?_
  intro p e s m args below meth c s₁ Bd hml0 hP hK
  obtain ⟨rfl, hZ, hh⟩ := hP
  have hx := Bd.exec
  have hby := Bd.bytes
  have hml : c.maxLocals = 5 := hml0
  have hown : s.vm.findClass "com/example/auditspur/auditspur/core/store/Postings" = some m.cls := findClass_of_methodNamed Bd.named
  have hnm := (name_of_methodNamed Bd.named Bd.method).1
  have X0 : Stand p l e ({ frames := 1, cells := 0, slots := 0, locals := 16 } : Room) s m #[(.ref r0), (.long q1), (.int p2)] below meth c s₁ [] 0 0 := Stand.of_body Bd
  have e0 : s₁.heap = h0 := by rw [← hh, Bd.state]; rfl
  have N0 := Fr.nil n0
  have hrl := (slotEnd.lt k _ _ hsl).2
  have hrin : ¬ ((Int32.ofNat r) < 0 ∨ 1024 ≤ (Int32.ofNat r).toNatClampNeg) := own_ofNat_in hrl (by decide)
  have hrn : (Int32.ofNat r).toNatClampNeg = r := own_ofNat_nat (by omega)
  have hpin : ¬ (wp < 0 ∨ 1024 ≤ wp.toNatClampNeg) := by rw [hwp]; exact own_ofNat_in (by omega) (by decide)
  have hpn : wp.toNatClampNeg = np := by rw [hwp]; exact own_ofNat_nat (by omega)
  obtain ⟨P0, hP0⟩ : ∃ P0 : State → Prop, P0 = fun t => Steps p.tables e below (s₁.setTop (entryFrame m #[(.ref r0), (.long q1), (.int p2)] 5)) t := ⟨_, rfl⟩
  have K0 : ∀ t, Steps p.tables e below (s₁.setTop (mkF m 0 #[.val (.ref r0), .val (.long q1), .second, .val (.int p2), .unset] [])) t → P0 t := by
    intro t k; rw [hP0]; exact castTop (add_ef m r0 q1 p2) k
  obtain ⟨T1, X1, e1, st1⟩ := getF X0 hx hZ hown (host := "") (Or.inl (hw _ (List.mem_of_getElem? (i := 26) rfl))) Via.refl e0 F_postings (g := (mkF m 1 #[.val (.ref r0), .val (.long q1), .second, .val (.int p2), .unset] [(.ref r0)])) rfl rfl (hb hby add_d1)
  obtain ⟨T2, X2, e2, st2⟩ := getF X1 hx hZ hown (host := "") (Or.inl (hw _ (List.mem_of_getElem? (i := 17) rfl))) Via.refl e1 F_events (g := (mkF m 5 #[.val (.ref r0), .val (.long q1), .second, .val (.int p2), .unset] [(.ref r0), (.int wp)])) rfl rfl (hb hby add_d5)
  obtain ⟨cq3, q3, q3'⟩ := E0.cell
  obtain ⟨_, _, ⟨T3, L3, k3, n3⟩, -, X3, ⟨Lc3, hQ3, l3, y3, z3⟩, st3⟩ := X2.privateBack hx (y := (⟨"com/example/auditspur/auditspur/core/store/Postings", "slot", "(J)I"⟩ : MethodName)) hown (mvT hZ (hw _ (List.mem_of_getElem? (i := 28) rfl))) (mvT hZ (hw _ (List.mem_of_getElem? (i := 29) rfl))) (own_selp hZ (hw _ (List.mem_of_getElem? (i := 3) rfl)) (hw _ (List.mem_of_getElem? (i := 29) rfl)) (hw _ (List.mem_of_getElem? (i := 30) rfl)) (by decide)) (Cond.privateMethod_at (mvP hZ (hw _ (List.mem_of_getElem? (i := 30) rfl)) (args := #[]))) (mvT hZ (hw _ (List.mem_of_getElem? (i := 31) rfl))) (by decide) (backOf (W := 0) (rm_slt l Z a0 hw [] r0 q1 bH bD bE bN fH fD fE fN wc wp k r h0 n0 Z0 E0 F_hashes F_heads F_events F_next V_hashes V_heads V_events V_next F_codes F_postings hsl) hZ (hw _ (List.mem_of_getElem? (i := 31) rfl)) (hw _ (List.mem_of_getElem? (i := 4) rfl)) (by decide) (by decide)) (g := (mkF m 50 #[.val (.ref r0), .val (.long q1), .second, .val (.int p2), .unset] [(.long q1), (.ref r0)])) rfl (by rw [hml]; rfl) (Steps.refl _) (a := r0) (by rw [e2]; exact q3) q3' (argsL := [(.long q1)]) (rest := []) (lenOf add_pd0 rfl) rfl (by show 2 * 0 + _ ≤ _; exact Nat.le_of_eq rfl) (hb hby add_d50) (fun _ _ => ⟨rfl, e2, (by decide : 0 + 0 ≤ _), (by decide : 0 + 0 ≤ _)⟩)
  dsimp only [Pt.U, Pt.locs, Pt.cells, Pt.slots] at X3 l3 y3 z3 st3 hQ3
  rw [l3, y3, z3] at X3
  obtain ⟨rfl, N3q, e3⟩ := hQ3
  have N3 := Fr.app N0 N3q
  have K4 : ∀ t, Steps p.tables e below (T3.setTop (mkF m 55 #[.val (.ref r0), .val (.long q1), .second, .val (.int p2), .val (.int (Int32.ofNat r))] [])) t → P0 t := by
    intro t kt
    refine K0 t ?_
    show Steps p.tables e below (s₁.setTop (mkF m 0 #[.val (.ref r0), .val (.long q1), .second, .val (.int p2), .unset] [])) t
    refine XS.aloadN X0.here hx rfl (hb hby add_d0) rfl rfl ?_
    show Steps p.tables e below (s₁.setTop (mkF m 1 #[.val (.ref r0), .val (.long q1), .second, .val (.int p2), .unset] [(.ref r0)])) t
    refine st1 _ ?_
    show Steps p.tables e below (T1.setTop (mkF m 4 #[.val (.ref r0), .val (.long q1), .second, .val (.int p2), .unset] [(.int wp)])) t
    refine XS.aloadN X1.here hx rfl (hb hby add_d4) rfl rfl ?_
    show Steps p.tables e below (T1.setTop (mkF m 5 #[.val (.ref r0), .val (.long q1), .second, .val (.int p2), .unset] [(.ref r0), (.int wp)])) t
    refine st2 _ ?_
    show Steps p.tables e below (T2.setTop (mkF m 8 #[.val (.ref r0), .val (.long q1), .second, .val (.int p2), .unset] [(.ref bE), (.int wp)])) t
    refine lnIA X2 hx hZ e2 V_events (z := (1024 : Int32)) (by decide) (g := (mkF m 8 #[.val (.ref r0), .val (.long q1), .second, .val (.int p2), .unset] [(.ref bE), (.int wp)])) rfl rfl (hb hby add_d8) _ ?_
    show Steps p.tables e below (T2.setTop (mkF m 9 #[.val (.ref r0), .val (.long q1), .second, .val (.int p2), .unset] [(.int (1024 : Int32)), (.int wp)])) t
    refine XS.icmpYes X2.here hx rfl (pc0 := 9) (pc' := 48) rfl (hb hby add_d9) rfl (feq (own_np hwp hnp)).2 (by decide) (by decide) ?_
    show Steps p.tables e below (T2.setTop (mkF m 48 #[.val (.ref r0), .val (.long q1), .second, .val (.int p2), .unset] [])) t
    refine XS.aloadN X2.here hx rfl (hb hby add_d48) rfl rfl ?_
    show Steps p.tables e below (T2.setTop (mkF m 49 #[.val (.ref r0), .val (.long q1), .second, .val (.int p2), .unset] [(.ref r0)])) t
    refine XS.lloadN X2.here hx rfl (hb hby add_d49) rfl ?_
    show Steps p.tables e below (T2.setTop (mkF m 50 #[.val (.ref r0), .val (.long q1), .second, .val (.int p2), .unset] [(.long q1), (.ref r0)])) t
    refine st3.trans ?_
    show Steps p.tables e below (T3.setTop (mkF m 53 #[.val (.ref r0), .val (.long q1), .second, .val (.int p2), .unset] [(.int (Int32.ofNat r))])) t
    refine XS.istore X3.here hx rfl (hb hby add_d53) rfl (l' := #[.val (.ref r0), .val (.long q1), .second, .val (.int p2), .val (.int (Int32.ofNat r))]) rfl ?_
    exact kt
  obtain ⟨v53, hv53, K5⟩ : ∃ v53 : Int32, v53 = (Int32.ofNat r) ∧ ∀ t, Steps p.tables e below (T3.setTop (mkF m 55 #[.val (.ref r0), .val (.long q1), .second, .val (.int p2), .val (.int v53)] [])) t → P0 t := ⟨_, rfl, K4⟩
  obtain ⟨T6, X6, e6, st6⟩ := getF X3 hx hZ hown (host := "") (Or.inl (hw _ (List.mem_of_getElem? (i := 15) rfl))) Via.refl e3 F_heads (g := (mkF m 56 #[.val (.ref r0), .val (.long q1), .second, .val (.int p2), .val (.int v53)] [(.ref r0)])) rfl rfl (hb hby add_d56)
  have K7 : ∀ t, Steps p.tables e below (T6.setTop (mkF m 62 #[.val (.ref r0), .val (.long q1), .second, .val (.int p2), .val (.int v53)] [(.int (fD (v53).toNatClampNeg))])) t → P0 t := by
    intro t kt
    refine K5 t ?_
    show Steps p.tables e below (T3.setTop (mkF m 55 #[.val (.ref r0), .val (.long q1), .second, .val (.int p2), .val (.int v53)] [])) t
    refine XS.aloadN X3.here hx rfl (hb hby add_d55) rfl rfl ?_
    show Steps p.tables e below (T3.setTop (mkF m 56 #[.val (.ref r0), .val (.long q1), .second, .val (.int p2), .val (.int v53)] [(.ref r0)])) t
    refine st6 _ ?_
    show Steps p.tables e below (T6.setTop (mkF m 59 #[.val (.ref r0), .val (.long q1), .second, .val (.int p2), .val (.int v53)] [(.ref bD)])) t
    refine XS.iload X6.here hx rfl (hb hby add_d59) rfl ?_
    show Steps p.tables e below (T6.setTop (mkF m 61 #[.val (.ref r0), .val (.long q1), .second, .val (.int p2), .val (.int v53)] [(.int v53), (.ref bD)])) t
    refine ldIA X6 hx hZ e6 V_heads (j := v53) (by rw [hv53]; exact hrin) (g := (mkF m 61 #[.val (.ref r0), .val (.long q1), .second, .val (.int p2), .val (.int v53)] [(.int v53), (.ref bD)])) rfl rfl (hb hby add_d61) _ ?_
    exact kt
  obtain ⟨jf83, jv83_codes, T36, lc37, h35, hjf83, hjv83_codes, X38, e39, N40, Z41, Kp42, F43, F44, F45, F46, F47, F48, F49, F50, F51, F52, F53, K54⟩ : ∃ (jf83 : Nat → Int64) (jv83_codes : Int32) (T36 : State) (lc37 : List Loc) (h35 : Heap), jf83 = (if (fD (v53).toNatClampNeg) = (0 : Int32) then (updJ fH (v53).toNatClampNeg q1) else fH) ∧ jv83_codes = (if (fD (v53).toNatClampNeg) = (0 : Int32) then (wc + (1 : Int32)) else wc) ∧ Stand p l e ({ frames := 1, cells := 0, slots := 0, locals := 16 } : Room) s m #[(.ref r0), (.long q1), (.int p2)] below meth c T36 lc37 0 0 ∧ T36.heap = h35 ∧ Fr n0 lc37 ∧ n0 ≤ h35.size ∧ Keep h0 h35 [r0, bH, bD, bE, bN] ∧ Exa Z h35 r0 "com/example/auditspur/auditspur/core/store/Postings" ∧ Fld Z h35 r0 "com/example/auditspur/auditspur/core/store/Postings" "hashes" "[J" (.ref bH) ∧ JA Z h35 bH 1024 jf83 ∧ Fld Z h35 r0 "com/example/auditspur/auditspur/core/store/Postings" "heads" "[I" (.ref bD) ∧ IA Z h35 bD .int 1024 fD ∧ Fld Z h35 r0 "com/example/auditspur/auditspur/core/store/Postings" "events" "[I" (.ref bE) ∧ IA Z h35 bE .int 1024 fE ∧ Fld Z h35 r0 "com/example/auditspur/auditspur/core/store/Postings" "next" "[I" (.ref bN) ∧ IA Z h35 bN .int 1024 fN ∧ Fld Z h35 r0 "com/example/auditspur/auditspur/core/store/Postings" "codes" "I" (.int jv83_codes) ∧ Fld Z h35 r0 "com/example/auditspur/auditspur/core/store/Postings" "postings" "I" (.int wp) ∧ ∀ t, Steps p.tables e below (T36.setTop (mkF m 83 #[.val (.ref r0), .val (.long q1), .second, .val (.int p2), .val (.int v53)] [])) t → P0 t := by
    by_cases hc62 : (fD (v53).toNatClampNeg) = (0 : Int32)
    · obtain ⟨T8, X8, e8, st8⟩ := getF X6 hx hZ hown (host := "") (Or.inl (hw _ (List.mem_of_getElem? (i := 12) rfl))) Via.refl e6 F_hashes (g := (mkF m 66 #[.val (.ref r0), .val (.long q1), .second, .val (.int p2), .val (.int v53)] [(.ref r0)])) rfl rfl (hb hby add_d66)
      obtain ⟨T9, h9, X9, e9, ⟨sl9, vv9, W9⟩, V9, st9⟩ := stJA X8 hx hZ e8 V_hashes (j := v53) (x := q1) (by rw [hv53]; exact hrin) (g := (mkF m 72 #[.val (.ref r0), .val (.long q1), .second, .val (.int p2), .val (.int v53)] [(.long q1), (.int v53), (.ref bH)])) rfl rfl (hb hby add_d72)
      have Z9 : n0 ≤ h9.size := Nat.le_trans Z0 (Keep.of_wr W9).1
      have N9 := Fr.snoc X9 N3 gbH
      have F10 : Exa Z h9 r0 "com/example/auditspur/auditspur/core/store/Postings" := Exa.wr W9 E0
      have F11 : Fld Z h9 r0 "com/example/auditspur/auditspur/core/store/Postings" "hashes" "[J" (.ref bH) := Fld.other W9 F_hashes (Or.inl n_bH)
      have F12 : Fld Z h9 r0 "com/example/auditspur/auditspur/core/store/Postings" "heads" "[I" (.ref bD) := Fld.other W9 F_heads (Or.inl n_bH)
      have F13 : IA Z h9 bD .int 1024 fD := V_heads.other W9 (Ne.symm n_bHbD)
      have F14 : Fld Z h9 r0 "com/example/auditspur/auditspur/core/store/Postings" "events" "[I" (.ref bE) := Fld.other W9 F_events (Or.inl n_bH)
      have F15 : IA Z h9 bE .int 1024 fE := V_events.other W9 (Ne.symm n_bHbE)
      have F16 : Fld Z h9 r0 "com/example/auditspur/auditspur/core/store/Postings" "next" "[I" (.ref bN) := Fld.other W9 F_next (Or.inl n_bH)
      have F17 : IA Z h9 bN .int 1024 fN := V_next.other W9 (Ne.symm n_bHbN)
      have F18 : Fld Z h9 r0 "com/example/auditspur/auditspur/core/store/Postings" "codes" "I" (.int wc) := Fld.other W9 F_codes (Or.inl n_bH)
      have F19 : Fld Z h9 r0 "com/example/auditspur/auditspur/core/store/Postings" "postings" "I" (.int wp) := Fld.other W9 F_postings (Or.inl n_bH)
      have Kp9 : Keep h0 h9 [r0, bH, bD, bE, bN] := (Keep.refl h0 [r0, bH, bD, bE, bN]).wr W9 (Or.inl (List.mem_of_getElem? (i := 1) rfl))
      obtain ⟨f72, hf72, V9'⟩ : ∃ f72 : Nat → Int64, f72 = (updJ fH (v53).toNatClampNeg q1) ∧ JA Z h9 bH 1024 f72 := ⟨_, rfl, V9⟩
      obtain ⟨T20, X20, e20, st20⟩ := getF X9 hx hZ hown (host := "") (Or.inl (hw _ (List.mem_of_getElem? (i := 32) rfl))) Via.refl e9 F18 (g := (mkF m 75 #[.val (.ref r0), .val (.long q1), .second, .val (.int p2), .val (.int v53)] [(.ref r0), (.ref r0)])) rfl rfl (hb hby add_d75)
      obtain ⟨T21, h21, X21, e21, W21, st21⟩ := putF X20 hx hZ hown (host := "") (Or.inl (hw _ (List.mem_of_getElem? (i := 32) rfl))) Via.refl e20 F18 F10 (Or.inl (hw _ (List.mem_of_getElem? (i := 33) rfl))) (hw _ (List.mem_of_getElem? (i := 3) rfl)) (ty := .int) (by decide) rfl rfl (g := (mkF m 80 #[.val (.ref r0), .val (.long q1), .second, .val (.int p2), .val (.int v53)] [(.int (wc + (1 : Int32))), (.ref r0)])) rfl rfl (hb hby add_d80)
      have Z21 : n0 ≤ h21.size := Nat.le_trans Z9 (Keep.of_wr W21).1
      have N21 := Fr.snoc X21 N9 g0
      have F22 : Exa Z h21 r0 "com/example/auditspur/auditspur/core/store/Postings" := Exa.wr W21 F10
      have F23 : Fld Z h21 r0 "com/example/auditspur/auditspur/core/store/Postings" "hashes" "[J" (.ref bH) := Fld.other W21 F11 (Or.inr (slot_ne (Or.inl (hw _ (List.mem_of_getElem? (i := 13) rfl))) (Or.inl (hw _ (List.mem_of_getElem? (i := 33) rfl))) (by decide) (t := (.array .long)) (t' := .int) (by decide) (by decide)))
      have F24 : JA Z h21 bH 1024 f72 := V9'.other W21 (Ne.symm n_bH)
      have F25 : Fld Z h21 r0 "com/example/auditspur/auditspur/core/store/Postings" "heads" "[I" (.ref bD) := Fld.other W21 F12 (Or.inr (slot_ne (Or.inl (hw _ (List.mem_of_getElem? (i := 16) rfl))) (Or.inl (hw _ (List.mem_of_getElem? (i := 33) rfl))) (by decide) (t := (.array .int)) (t' := .int) (by decide) (by decide)))
      have F26 : IA Z h21 bD .int 1024 fD := F13.other W21 (Ne.symm n_bD)
      have F27 : Fld Z h21 r0 "com/example/auditspur/auditspur/core/store/Postings" "events" "[I" (.ref bE) := Fld.other W21 F14 (Or.inr (slot_ne (Or.inl (hw _ (List.mem_of_getElem? (i := 18) rfl))) (Or.inl (hw _ (List.mem_of_getElem? (i := 33) rfl))) (by decide) (t := (.array .int)) (t' := .int) (by decide) (by decide)))
      have F28 : IA Z h21 bE .int 1024 fE := F15.other W21 (Ne.symm n_bE)
      have F29 : Fld Z h21 r0 "com/example/auditspur/auditspur/core/store/Postings" "next" "[I" (.ref bN) := Fld.other W21 F16 (Or.inr (slot_ne (Or.inl (hw _ (List.mem_of_getElem? (i := 20) rfl))) (Or.inl (hw _ (List.mem_of_getElem? (i := 33) rfl))) (by decide) (t := (.array .int)) (t' := .int) (by decide) (by decide)))
      have F30 : IA Z h21 bN .int 1024 fN := F17.other W21 (Ne.symm n_bN)
      have F31 : Fld Z h21 r0 "com/example/auditspur/auditspur/core/store/Postings" "postings" "I" (.int wp) := Fld.other W21 F19 (Or.inr (slot_ne (Or.inl (hw _ (List.mem_of_getElem? (i := 27) rfl))) (Or.inl (hw _ (List.mem_of_getElem? (i := 33) rfl))) (by decide) (t := .int) (t' := .int) (by decide) (by decide)))
      have Kp21 : Keep h0 h21 [r0, bH, bD, bE, bN] := Kp9.wr W21 (Or.inl (List.mem_of_getElem? (i := 0) rfl))
      have F32 : Fld Z h21 r0 "com/example/auditspur/auditspur/core/store/Postings" "codes" "I" (.int (wc + (1 : Int32))) := Fld.same W21 F18
      have K33 : ∀ t, Steps p.tables e below (T21.setTop (mkF m 83 #[.val (.ref r0), .val (.long q1), .second, .val (.int p2), .val (.int v53)] [])) t → P0 t := by
        intro t kt
        refine K7 t ?_
        show Steps p.tables e below (T6.setTop (mkF m 62 #[.val (.ref r0), .val (.long q1), .second, .val (.int p2), .val (.int v53)] [(.int (fD (v53).toNatClampNeg))])) t
        refine XS.ifNo X6.here hx rfl (hb hby add_d62) rfl ((if0 _ _).trans (teq hc62).2) ?_
        show Steps p.tables e below (T6.setTop (mkF m 65 #[.val (.ref r0), .val (.long q1), .second, .val (.int p2), .val (.int v53)] [])) t
        refine XS.aloadN X6.here hx rfl (hb hby add_d65) rfl rfl ?_
        show Steps p.tables e below (T6.setTop (mkF m 66 #[.val (.ref r0), .val (.long q1), .second, .val (.int p2), .val (.int v53)] [(.ref r0)])) t
        refine st8 _ ?_
        show Steps p.tables e below (T8.setTop (mkF m 69 #[.val (.ref r0), .val (.long q1), .second, .val (.int p2), .val (.int v53)] [(.ref bH)])) t
        refine XS.iload X8.here hx rfl (hb hby add_d69) rfl ?_
        show Steps p.tables e below (T8.setTop (mkF m 71 #[.val (.ref r0), .val (.long q1), .second, .val (.int p2), .val (.int v53)] [(.int v53), (.ref bH)])) t
        refine XS.lloadN X8.here hx rfl (hb hby add_d71) rfl ?_
        show Steps p.tables e below (T8.setTop (mkF m 72 #[.val (.ref r0), .val (.long q1), .second, .val (.int p2), .val (.int v53)] [(.long q1), (.int v53), (.ref bH)])) t
        refine st9 _ ?_
        show Steps p.tables e below (T9.setTop (mkF m 73 #[.val (.ref r0), .val (.long q1), .second, .val (.int p2), .val (.int v53)] [])) t
        refine XS.aloadN X9.here hx rfl (hb hby add_d73) rfl rfl ?_
        show Steps p.tables e below (T9.setTop (mkF m 74 #[.val (.ref r0), .val (.long q1), .second, .val (.int p2), .val (.int v53)] [(.ref r0)])) t
        refine XS.dup X9.here hx rfl (hb hby add_d74) rfl rfl ?_
        show Steps p.tables e below (T9.setTop (mkF m 75 #[.val (.ref r0), .val (.long q1), .second, .val (.int p2), .val (.int v53)] [(.ref r0), (.ref r0)])) t
        refine st20 _ ?_
        show Steps p.tables e below (T20.setTop (mkF m 78 #[.val (.ref r0), .val (.long q1), .second, .val (.int p2), .val (.int v53)] [(.int wc), (.ref r0)])) t
        refine XS.iconst X20.here hx rfl (hb hby add_d78) ?_
        show Steps p.tables e below (T20.setTop (mkF m 79 #[.val (.ref r0), .val (.long q1), .second, .val (.int p2), .val (.int v53)] [(.int (1 : Int32)), (.int wc), (.ref r0)])) t
        refine XS.iadd X20.here hx rfl (hb hby add_d79) rfl ?_
        show Steps p.tables e below (T20.setTop (mkF m 80 #[.val (.ref r0), .val (.long q1), .second, .val (.int p2), .val (.int v53)] [(.int (wc + (1 : Int32))), (.ref r0)])) t
        refine st21 _ ?_
        exact kt
      subst hf72
      exact ⟨_, _, _, _, _, (if_pos hc62).symm, (if_pos hc62).symm, X21, e21, N21, Z21, Kp21, F22, F23, F24, F25, F26, F27, F28, F29, F30, F32, F31, K33⟩
    · have K34 : ∀ t, Steps p.tables e below (T6.setTop (mkF m 83 #[.val (.ref r0), .val (.long q1), .second, .val (.int p2), .val (.int v53)] [])) t → P0 t := by
        intro t kt
        refine K7 t ?_
        show Steps p.tables e below (T6.setTop (mkF m 62 #[.val (.ref r0), .val (.long q1), .second, .val (.int p2), .val (.int v53)] [(.int (fD (v53).toNatClampNeg))])) t
        refine XS.ifYes X6.here hx rfl (pc0 := 62) (pc' := 83) rfl (hb hby add_d62) rfl ((if0 _ _).trans (feq hc62).2) (by decide) (by decide) ?_
        exact kt
      exact ⟨_, _, _, _, _, (if_neg hc62).symm, (if_neg hc62).symm, X6, e6, N3, Z0, (Keep.refl h0 [r0, bH, bD, bE, bN]), E0, F_hashes, V_hashes, F_heads, V_heads, F_events, V_events, F_next, V_next, F_codes, F_postings, K34⟩
  obtain ⟨T55, X55, e55, st55⟩ := getF X38 hx hZ hown (host := "") (Or.inl (hw _ (List.mem_of_getElem? (i := 17) rfl))) Via.refl e39 F48 (g := (mkF m 84 #[.val (.ref r0), .val (.long q1), .second, .val (.int p2), .val (.int v53)] [(.ref r0)])) rfl rfl (hb hby add_d84)
  obtain ⟨T56, X56, e56, st56⟩ := getF X55 hx hZ hown (host := "") (Or.inl (hw _ (List.mem_of_getElem? (i := 26) rfl))) Via.refl e55 F53 (g := (mkF m 88 #[.val (.ref r0), .val (.long q1), .second, .val (.int p2), .val (.int v53)] [(.ref r0), (.ref bE)])) rfl rfl (hb hby add_d88)
  obtain ⟨T57, h57, X57, e57, ⟨sl57, vv57, W57⟩, V57, st57⟩ := stIA X56 hx hZ e56 F49 (j := wp) (x := p2) hpin (g := (mkF m 92 #[.val (.ref r0), .val (.long q1), .second, .val (.int p2), .val (.int v53)] [(.int p2), (.int wp), (.ref bE)])) rfl rfl (hb hby add_d92)
  have Z57 : n0 ≤ h57.size := Nat.le_trans Z41 (Keep.of_wr W57).1
  have N57 := Fr.snoc X57 N40 gbE
  have F58 : Exa Z h57 r0 "com/example/auditspur/auditspur/core/store/Postings" := Exa.wr W57 F43
  have F59 : Fld Z h57 r0 "com/example/auditspur/auditspur/core/store/Postings" "hashes" "[J" (.ref bH) := Fld.other W57 F44 (Or.inl n_bE)
  have F60 : JA Z h57 bH 1024 jf83 := F45.other W57 n_bHbE
  have F61 : Fld Z h57 r0 "com/example/auditspur/auditspur/core/store/Postings" "heads" "[I" (.ref bD) := Fld.other W57 F46 (Or.inl n_bE)
  have F62 : IA Z h57 bD .int 1024 fD := F47.other W57 n_bDbE
  have F63 : Fld Z h57 r0 "com/example/auditspur/auditspur/core/store/Postings" "events" "[I" (.ref bE) := Fld.other W57 F48 (Or.inl n_bE)
  have F64 : Fld Z h57 r0 "com/example/auditspur/auditspur/core/store/Postings" "next" "[I" (.ref bN) := Fld.other W57 F50 (Or.inl n_bE)
  have F65 : IA Z h57 bN .int 1024 fN := F51.other W57 (Ne.symm n_bEbN)
  have F66 : Fld Z h57 r0 "com/example/auditspur/auditspur/core/store/Postings" "codes" "I" (.int jv83_codes) := Fld.other W57 F52 (Or.inl n_bE)
  have F67 : Fld Z h57 r0 "com/example/auditspur/auditspur/core/store/Postings" "postings" "I" (.int wp) := Fld.other W57 F53 (Or.inl n_bE)
  have Kp57 : Keep h0 h57 [r0, bH, bD, bE, bN] := Kp42.wr W57 (Or.inl (List.mem_of_getElem? (i := 3) rfl))
  obtain ⟨f92, hf92, V57'⟩ : ∃ f92 : Nat → Int32, f92 = (upd fE (wp).toNatClampNeg p2) ∧ IA Z h57 bE .int 1024 f92 := ⟨_, rfl, V57⟩
  obtain ⟨T68, X68, e68, st68⟩ := getF X57 hx hZ hown (host := "") (Or.inl (hw _ (List.mem_of_getElem? (i := 19) rfl))) Via.refl e57 F64 (g := (mkF m 94 #[.val (.ref r0), .val (.long q1), .second, .val (.int p2), .val (.int v53)] [(.ref r0)])) rfl rfl (hb hby add_d94)
  obtain ⟨T69, X69, e69, st69⟩ := getF X68 hx hZ hown (host := "") (Or.inl (hw _ (List.mem_of_getElem? (i := 26) rfl))) Via.refl e68 F67 (g := (mkF m 98 #[.val (.ref r0), .val (.long q1), .second, .val (.int p2), .val (.int v53)] [(.ref r0), (.ref bN)])) rfl rfl (hb hby add_d98)
  obtain ⟨T70, X70, e70, st70⟩ := getF X69 hx hZ hown (host := "") (Or.inl (hw _ (List.mem_of_getElem? (i := 15) rfl))) Via.refl e69 F61 (g := (mkF m 102 #[.val (.ref r0), .val (.long q1), .second, .val (.int p2), .val (.int v53)] [(.ref r0), (.int wp), (.ref bN)])) rfl rfl (hb hby add_d102)
  obtain ⟨T71, h71, X71, e71, ⟨sl71, vv71, W71⟩, V71, st71⟩ := stIA X70 hx hZ e70 F65 (j := wp) (x := (fD (v53).toNatClampNeg)) hpin (g := (mkF m 108 #[.val (.ref r0), .val (.long q1), .second, .val (.int p2), .val (.int v53)] [(.int (fD (v53).toNatClampNeg)), (.int wp), (.ref bN)])) rfl rfl (hb hby add_d108)
  have Z71 : n0 ≤ h71.size := Nat.le_trans Z57 (Keep.of_wr W71).1
  have N71 := Fr.snoc X71 N57 gbN
  have F72 : Exa Z h71 r0 "com/example/auditspur/auditspur/core/store/Postings" := Exa.wr W71 F58
  have F73 : Fld Z h71 r0 "com/example/auditspur/auditspur/core/store/Postings" "hashes" "[J" (.ref bH) := Fld.other W71 F59 (Or.inl n_bN)
  have F74 : JA Z h71 bH 1024 jf83 := F60.other W71 n_bHbN
  have F75 : Fld Z h71 r0 "com/example/auditspur/auditspur/core/store/Postings" "heads" "[I" (.ref bD) := Fld.other W71 F61 (Or.inl n_bN)
  have F76 : IA Z h71 bD .int 1024 fD := F62.other W71 n_bDbN
  have F77 : Fld Z h71 r0 "com/example/auditspur/auditspur/core/store/Postings" "events" "[I" (.ref bE) := Fld.other W71 F63 (Or.inl n_bN)
  have F78 : IA Z h71 bE .int 1024 f92 := V57'.other W71 n_bEbN
  have F79 : Fld Z h71 r0 "com/example/auditspur/auditspur/core/store/Postings" "next" "[I" (.ref bN) := Fld.other W71 F64 (Or.inl n_bN)
  have F80 : Fld Z h71 r0 "com/example/auditspur/auditspur/core/store/Postings" "codes" "I" (.int jv83_codes) := Fld.other W71 F66 (Or.inl n_bN)
  have F81 : Fld Z h71 r0 "com/example/auditspur/auditspur/core/store/Postings" "postings" "I" (.int wp) := Fld.other W71 F67 (Or.inl n_bN)
  have Kp71 : Keep h0 h71 [r0, bH, bD, bE, bN] := Kp57.wr W71 (Or.inl (List.mem_of_getElem? (i := 4) rfl))
  obtain ⟨f108, hf108, V71'⟩ : ∃ f108 : Nat → Int32, f108 = (upd fN (wp).toNatClampNeg (fD (v53).toNatClampNeg)) ∧ IA Z h71 bN .int 1024 f108 := ⟨_, rfl, V71⟩
  obtain ⟨T82, X82, e82, st82⟩ := getF X71 hx hZ hown (host := "") (Or.inl (hw _ (List.mem_of_getElem? (i := 26) rfl))) Via.refl e71 F81 (g := (mkF m 111 #[.val (.ref r0), .val (.long q1), .second, .val (.int p2), .val (.int v53)] [(.ref r0), (.ref r0)])) rfl rfl (hb hby add_d111)
  obtain ⟨T83, h83, X83, e83, W83, st83⟩ := putF X82 hx hZ hown (host := "") (Or.inl (hw _ (List.mem_of_getElem? (i := 26) rfl))) Via.refl e82 F81 F72 (Or.inl (hw _ (List.mem_of_getElem? (i := 27) rfl))) (hw _ (List.mem_of_getElem? (i := 3) rfl)) (ty := .int) (by decide) rfl rfl (g := (mkF m 116 #[.val (.ref r0), .val (.long q1), .second, .val (.int p2), .val (.int v53)] [(.int (wp + (1 : Int32))), (.ref r0)])) rfl rfl (hb hby add_d116)
  have Z83 : n0 ≤ h83.size := Nat.le_trans Z71 (Keep.of_wr W83).1
  have N83 := Fr.snoc X83 N71 g0
  have F84 : Exa Z h83 r0 "com/example/auditspur/auditspur/core/store/Postings" := Exa.wr W83 F72
  have F85 : Fld Z h83 r0 "com/example/auditspur/auditspur/core/store/Postings" "hashes" "[J" (.ref bH) := Fld.other W83 F73 (Or.inr (slot_ne (Or.inl (hw _ (List.mem_of_getElem? (i := 13) rfl))) (Or.inl (hw _ (List.mem_of_getElem? (i := 27) rfl))) (by decide) (t := (.array .long)) (t' := .int) (by decide) (by decide)))
  have F86 : JA Z h83 bH 1024 jf83 := F74.other W83 (Ne.symm n_bH)
  have F87 : Fld Z h83 r0 "com/example/auditspur/auditspur/core/store/Postings" "heads" "[I" (.ref bD) := Fld.other W83 F75 (Or.inr (slot_ne (Or.inl (hw _ (List.mem_of_getElem? (i := 16) rfl))) (Or.inl (hw _ (List.mem_of_getElem? (i := 27) rfl))) (by decide) (t := (.array .int)) (t' := .int) (by decide) (by decide)))
  have F88 : IA Z h83 bD .int 1024 fD := F76.other W83 (Ne.symm n_bD)
  have F89 : Fld Z h83 r0 "com/example/auditspur/auditspur/core/store/Postings" "events" "[I" (.ref bE) := Fld.other W83 F77 (Or.inr (slot_ne (Or.inl (hw _ (List.mem_of_getElem? (i := 18) rfl))) (Or.inl (hw _ (List.mem_of_getElem? (i := 27) rfl))) (by decide) (t := (.array .int)) (t' := .int) (by decide) (by decide)))
  have F90 : IA Z h83 bE .int 1024 f92 := F78.other W83 (Ne.symm n_bE)
  have F91 : Fld Z h83 r0 "com/example/auditspur/auditspur/core/store/Postings" "next" "[I" (.ref bN) := Fld.other W83 F79 (Or.inr (slot_ne (Or.inl (hw _ (List.mem_of_getElem? (i := 20) rfl))) (Or.inl (hw _ (List.mem_of_getElem? (i := 27) rfl))) (by decide) (t := (.array .int)) (t' := .int) (by decide) (by decide)))
  have F92 : IA Z h83 bN .int 1024 f108 := V71'.other W83 (Ne.symm n_bN)
  have F93 : Fld Z h83 r0 "com/example/auditspur/auditspur/core/store/Postings" "codes" "I" (.int jv83_codes) := Fld.other W83 F80 (Or.inr (slot_ne (Or.inl (hw _ (List.mem_of_getElem? (i := 33) rfl))) (Or.inl (hw _ (List.mem_of_getElem? (i := 27) rfl))) (by decide) (t := .int) (t' := .int) (by decide) (by decide)))
  have Kp83 : Keep h0 h83 [r0, bH, bD, bE, bN] := Kp71.wr W83 (Or.inl (List.mem_of_getElem? (i := 0) rfl))
  have F94 : Fld Z h83 r0 "com/example/auditspur/auditspur/core/store/Postings" "postings" "I" (.int (wp + (1 : Int32))) := Fld.same W83 F81
  obtain ⟨T95, X95, e95, st95⟩ := getF X83 hx hZ hown (host := "") (Or.inl (hw _ (List.mem_of_getElem? (i := 15) rfl))) Via.refl e83 F87 (g := (mkF m 120 #[.val (.ref r0), .val (.long q1), .second, .val (.int p2), .val (.int v53)] [(.ref r0)])) rfl rfl (hb hby add_d120)
  obtain ⟨T96, X96, e96, st96⟩ := getF X95 hx hZ hown (host := "") (Or.inl (hw _ (List.mem_of_getElem? (i := 26) rfl))) Via.refl e95 F94 (g := (mkF m 126 #[.val (.ref r0), .val (.long q1), .second, .val (.int p2), .val (.int v53)] [(.ref r0), (.int v53), (.ref bD)])) rfl rfl (hb hby add_d126)
  obtain ⟨T97, h97, X97, e97, ⟨sl97, vv97, W97⟩, V97, st97⟩ := stIA X96 hx hZ e96 F88 (j := v53) (x := (wp + (1 : Int32))) (by rw [hv53]; exact hrin) (g := (mkF m 129 #[.val (.ref r0), .val (.long q1), .second, .val (.int p2), .val (.int v53)] [(.int (wp + (1 : Int32))), (.int v53), (.ref bD)])) rfl rfl (hb hby add_d129)
  have Z97 : n0 ≤ h97.size := Nat.le_trans Z83 (Keep.of_wr W97).1
  have N97 := Fr.snoc X97 N83 gbD
  have F98 : Exa Z h97 r0 "com/example/auditspur/auditspur/core/store/Postings" := Exa.wr W97 F84
  have F99 : Fld Z h97 r0 "com/example/auditspur/auditspur/core/store/Postings" "hashes" "[J" (.ref bH) := Fld.other W97 F85 (Or.inl n_bD)
  have F100 : JA Z h97 bH 1024 jf83 := F86.other W97 n_bHbD
  have F101 : Fld Z h97 r0 "com/example/auditspur/auditspur/core/store/Postings" "heads" "[I" (.ref bD) := Fld.other W97 F87 (Or.inl n_bD)
  have F102 : Fld Z h97 r0 "com/example/auditspur/auditspur/core/store/Postings" "events" "[I" (.ref bE) := Fld.other W97 F89 (Or.inl n_bD)
  have F103 : IA Z h97 bE .int 1024 f92 := F90.other W97 (Ne.symm n_bDbE)
  have F104 : Fld Z h97 r0 "com/example/auditspur/auditspur/core/store/Postings" "next" "[I" (.ref bN) := Fld.other W97 F91 (Or.inl n_bD)
  have F105 : IA Z h97 bN .int 1024 f108 := F92.other W97 (Ne.symm n_bDbN)
  have F106 : Fld Z h97 r0 "com/example/auditspur/auditspur/core/store/Postings" "codes" "I" (.int jv83_codes) := Fld.other W97 F93 (Or.inl n_bD)
  have F107 : Fld Z h97 r0 "com/example/auditspur/auditspur/core/store/Postings" "postings" "I" (.int (wp + (1 : Int32))) := Fld.other W97 F94 (Or.inl n_bD)
  have Kp97 : Keep h0 h97 [r0, bH, bD, bE, bN] := Kp83.wr W97 (Or.inl (List.mem_of_getElem? (i := 2) rfl))
  obtain ⟨f129, hf129, V97'⟩ : ∃ f129 : Nat → Int32, f129 = (upd fD (v53).toNatClampNeg (wp + (1 : Int32))) ∧ IA Z h97 bD .int 1024 f129 := ⟨_, rfl, V97⟩
  obtain ⟨T108, X108, e108, st108⟩ := getF X97 hx hZ hown (host := "") (Or.inl (hw _ (List.mem_of_getElem? (i := 32) rfl))) Via.refl e97 F106 (g := (mkF m 131 #[.val (.ref r0), .val (.long q1), .second, .val (.int p2), .val (.int v53)] [(.ref r0)])) rfl rfl (hb hby add_d131)
  obtain ⟨T109, X109, e109, st109⟩ := getF X108 hx hZ hown (host := "") (Or.inl (hw _ (List.mem_of_getElem? (i := 15) rfl))) Via.refl e108 F101 (g := (mkF m 140 #[.val (.ref r0), .val (.long q1), .second, .val (.int p2), .val (.int v53)] [(.ref r0), (.long ((jv83_codes.toInt64) * (4 : Int64)))])) rfl rfl (hb hby add_d140)
  have K110 : ∀ t, Steps p.tables e below (T109.setTop (mkF m 157 #[.val (.ref r0), .val (.long q1), .second, .val (.int p2), .val (.int v53)] [])) t → P0 t := by
    intro t kt
    refine K54 t ?_
    show Steps p.tables e below (T36.setTop (mkF m 83 #[.val (.ref r0), .val (.long q1), .second, .val (.int p2), .val (.int v53)] [])) t
    refine XS.aloadN X38.here hx rfl (hb hby add_d83) rfl rfl ?_
    show Steps p.tables e below (T36.setTop (mkF m 84 #[.val (.ref r0), .val (.long q1), .second, .val (.int p2), .val (.int v53)] [(.ref r0)])) t
    refine st55 _ ?_
    show Steps p.tables e below (T55.setTop (mkF m 87 #[.val (.ref r0), .val (.long q1), .second, .val (.int p2), .val (.int v53)] [(.ref bE)])) t
    refine XS.aloadN X55.here hx rfl (hb hby add_d87) rfl rfl ?_
    show Steps p.tables e below (T55.setTop (mkF m 88 #[.val (.ref r0), .val (.long q1), .second, .val (.int p2), .val (.int v53)] [(.ref r0), (.ref bE)])) t
    refine st56 _ ?_
    show Steps p.tables e below (T56.setTop (mkF m 91 #[.val (.ref r0), .val (.long q1), .second, .val (.int p2), .val (.int v53)] [(.int wp), (.ref bE)])) t
    refine XS.iloadN X56.here hx rfl (hb hby add_d91) rfl ?_
    show Steps p.tables e below (T56.setTop (mkF m 92 #[.val (.ref r0), .val (.long q1), .second, .val (.int p2), .val (.int v53)] [(.int p2), (.int wp), (.ref bE)])) t
    refine st57 _ ?_
    show Steps p.tables e below (T57.setTop (mkF m 93 #[.val (.ref r0), .val (.long q1), .second, .val (.int p2), .val (.int v53)] [])) t
    refine XS.aloadN X57.here hx rfl (hb hby add_d93) rfl rfl ?_
    show Steps p.tables e below (T57.setTop (mkF m 94 #[.val (.ref r0), .val (.long q1), .second, .val (.int p2), .val (.int v53)] [(.ref r0)])) t
    refine st68 _ ?_
    show Steps p.tables e below (T68.setTop (mkF m 97 #[.val (.ref r0), .val (.long q1), .second, .val (.int p2), .val (.int v53)] [(.ref bN)])) t
    refine XS.aloadN X68.here hx rfl (hb hby add_d97) rfl rfl ?_
    show Steps p.tables e below (T68.setTop (mkF m 98 #[.val (.ref r0), .val (.long q1), .second, .val (.int p2), .val (.int v53)] [(.ref r0), (.ref bN)])) t
    refine st69 _ ?_
    show Steps p.tables e below (T69.setTop (mkF m 101 #[.val (.ref r0), .val (.long q1), .second, .val (.int p2), .val (.int v53)] [(.int wp), (.ref bN)])) t
    refine XS.aloadN X69.here hx rfl (hb hby add_d101) rfl rfl ?_
    show Steps p.tables e below (T69.setTop (mkF m 102 #[.val (.ref r0), .val (.long q1), .second, .val (.int p2), .val (.int v53)] [(.ref r0), (.int wp), (.ref bN)])) t
    refine st70 _ ?_
    show Steps p.tables e below (T70.setTop (mkF m 105 #[.val (.ref r0), .val (.long q1), .second, .val (.int p2), .val (.int v53)] [(.ref bD), (.int wp), (.ref bN)])) t
    refine XS.iload X70.here hx rfl (hb hby add_d105) rfl ?_
    show Steps p.tables e below (T70.setTop (mkF m 107 #[.val (.ref r0), .val (.long q1), .second, .val (.int p2), .val (.int v53)] [(.int v53), (.ref bD), (.int wp), (.ref bN)])) t
    refine ldIA X70 hx hZ e70 F62 (j := v53) (by rw [hv53]; exact hrin) (g := (mkF m 107 #[.val (.ref r0), .val (.long q1), .second, .val (.int p2), .val (.int v53)] [(.int v53), (.ref bD), (.int wp), (.ref bN)])) rfl rfl (hb hby add_d107) _ ?_
    show Steps p.tables e below (T70.setTop (mkF m 108 #[.val (.ref r0), .val (.long q1), .second, .val (.int p2), .val (.int v53)] [(.int (fD (v53).toNatClampNeg)), (.int wp), (.ref bN)])) t
    refine st71 _ ?_
    show Steps p.tables e below (T71.setTop (mkF m 109 #[.val (.ref r0), .val (.long q1), .second, .val (.int p2), .val (.int v53)] [])) t
    refine XS.aloadN X71.here hx rfl (hb hby add_d109) rfl rfl ?_
    show Steps p.tables e below (T71.setTop (mkF m 110 #[.val (.ref r0), .val (.long q1), .second, .val (.int p2), .val (.int v53)] [(.ref r0)])) t
    refine XS.dup X71.here hx rfl (hb hby add_d110) rfl rfl ?_
    show Steps p.tables e below (T71.setTop (mkF m 111 #[.val (.ref r0), .val (.long q1), .second, .val (.int p2), .val (.int v53)] [(.ref r0), (.ref r0)])) t
    refine st82 _ ?_
    show Steps p.tables e below (T82.setTop (mkF m 114 #[.val (.ref r0), .val (.long q1), .second, .val (.int p2), .val (.int v53)] [(.int wp), (.ref r0)])) t
    refine XS.iconst X82.here hx rfl (hb hby add_d114) ?_
    show Steps p.tables e below (T82.setTop (mkF m 115 #[.val (.ref r0), .val (.long q1), .second, .val (.int p2), .val (.int v53)] [(.int (1 : Int32)), (.int wp), (.ref r0)])) t
    refine XS.iadd X82.here hx rfl (hb hby add_d115) rfl ?_
    show Steps p.tables e below (T82.setTop (mkF m 116 #[.val (.ref r0), .val (.long q1), .second, .val (.int p2), .val (.int v53)] [(.int (wp + (1 : Int32))), (.ref r0)])) t
    refine st83 _ ?_
    show Steps p.tables e below (T83.setTop (mkF m 119 #[.val (.ref r0), .val (.long q1), .second, .val (.int p2), .val (.int v53)] [])) t
    refine XS.aloadN X83.here hx rfl (hb hby add_d119) rfl rfl ?_
    show Steps p.tables e below (T83.setTop (mkF m 120 #[.val (.ref r0), .val (.long q1), .second, .val (.int p2), .val (.int v53)] [(.ref r0)])) t
    refine st95 _ ?_
    show Steps p.tables e below (T95.setTop (mkF m 123 #[.val (.ref r0), .val (.long q1), .second, .val (.int p2), .val (.int v53)] [(.ref bD)])) t
    refine XS.iload X95.here hx rfl (hb hby add_d123) rfl ?_
    show Steps p.tables e below (T95.setTop (mkF m 125 #[.val (.ref r0), .val (.long q1), .second, .val (.int p2), .val (.int v53)] [(.int v53), (.ref bD)])) t
    refine XS.aloadN X95.here hx rfl (hb hby add_d125) rfl rfl ?_
    show Steps p.tables e below (T95.setTop (mkF m 126 #[.val (.ref r0), .val (.long q1), .second, .val (.int p2), .val (.int v53)] [(.ref r0), (.int v53), (.ref bD)])) t
    refine st96 _ ?_
    show Steps p.tables e below (T96.setTop (mkF m 129 #[.val (.ref r0), .val (.long q1), .second, .val (.int p2), .val (.int v53)] [(.int (wp + (1 : Int32))), (.int v53), (.ref bD)])) t
    refine st97 _ ?_
    show Steps p.tables e below (T97.setTop (mkF m 130 #[.val (.ref r0), .val (.long q1), .second, .val (.int p2), .val (.int v53)] [])) t
    refine XS.aloadN X97.here hx rfl (hb hby add_d130) rfl rfl ?_
    show Steps p.tables e below (T97.setTop (mkF m 131 #[.val (.ref r0), .val (.long q1), .second, .val (.int p2), .val (.int v53)] [(.ref r0)])) t
    refine st108 _ ?_
    show Steps p.tables e below (T108.setTop (mkF m 134 #[.val (.ref r0), .val (.long q1), .second, .val (.int p2), .val (.int v53)] [(.int jv83_codes)])) t
    refine XS.i2l X108.here hx rfl (hb hby add_d134) rfl ?_
    show Steps p.tables e below (T108.setTop (mkF m 135 #[.val (.ref r0), .val (.long q1), .second, .val (.int p2), .val (.int v53)] [(.long (jv83_codes.toInt64))])) t
    refine X108.ldc2Long hx hown (mvT hZ (hw _ (List.mem_of_getElem? (i := 34) rfl))) (g := (mkF m 135 #[.val (.ref r0), .val (.long q1), .second, .val (.int p2), .val (.int v53)] [(.long (jv83_codes.toInt64))])) rfl (hb hby add_d135) _ ?_
    show Steps p.tables e below (T108.setTop (mkF m 138 #[.val (.ref r0), .val (.long q1), .second, .val (.int p2), .val (.int v53)] [(.long (4 : Int64)), (.long (jv83_codes.toInt64))])) t
    refine XS.lmul X108.here hx rfl (hb hby add_d138) rfl ?_
    show Steps p.tables e below (T108.setTop (mkF m 139 #[.val (.ref r0), .val (.long q1), .second, .val (.int p2), .val (.int v53)] [(.long ((jv83_codes.toInt64) * (4 : Int64)))])) t
    refine XS.aloadN X108.here hx rfl (hb hby add_d139) rfl rfl ?_
    show Steps p.tables e below (T108.setTop (mkF m 140 #[.val (.ref r0), .val (.long q1), .second, .val (.int p2), .val (.int v53)] [(.ref r0), (.long ((jv83_codes.toInt64) * (4 : Int64)))])) t
    refine st109 _ ?_
    show Steps p.tables e below (T109.setTop (mkF m 143 #[.val (.ref r0), .val (.long q1), .second, .val (.int p2), .val (.int v53)] [(.ref bD), (.long ((jv83_codes.toInt64) * (4 : Int64)))])) t
    refine lnIA X109 hx hZ e109 V97' (z := (1024 : Int32)) (by decide) (g := (mkF m 143 #[.val (.ref r0), .val (.long q1), .second, .val (.int p2), .val (.int v53)] [(.ref bD), (.long ((jv83_codes.toInt64) * (4 : Int64)))])) rfl rfl (hb hby add_d143) _ ?_
    show Steps p.tables e below (T109.setTop (mkF m 144 #[.val (.ref r0), .val (.long q1), .second, .val (.int p2), .val (.int v53)] [(.int (1024 : Int32)), (.long ((jv83_codes.toInt64) * (4 : Int64)))])) t
    refine XS.i2l X109.here hx rfl (hb hby add_d144) rfl ?_
    show Steps p.tables e below (T109.setTop (mkF m 145 #[.val (.ref r0), .val (.long q1), .second, .val (.int p2), .val (.int v53)] [(.long ((1024 : Int32).toInt64)), (.long ((jv83_codes.toInt64) * (4 : Int64)))])) t
    refine X109.ldc2Long hx hown (mvT hZ (hw _ (List.mem_of_getElem? (i := 35) rfl))) (g := (mkF m 145 #[.val (.ref r0), .val (.long q1), .second, .val (.int p2), .val (.int v53)] [(.long ((1024 : Int32).toInt64)), (.long ((jv83_codes.toInt64) * (4 : Int64)))])) rfl (hb hby add_d145) _ ?_
    show Steps p.tables e below (T109.setTop (mkF m 148 #[.val (.ref r0), .val (.long q1), .second, .val (.int p2), .val (.int v53)] [(.long (3 : Int64)), (.long ((1024 : Int32).toInt64)), (.long ((jv83_codes.toInt64) * (4 : Int64)))])) t
    refine XS.lmul X109.here hx rfl (hb hby add_d148) rfl ?_
    show Steps p.tables e below (T109.setTop (mkF m 149 #[.val (.ref r0), .val (.long q1), .second, .val (.int p2), .val (.int v53)] [(.long (((1024 : Int32).toInt64) * (3 : Int64))), (.long ((jv83_codes.toInt64) * (4 : Int64)))])) t
    refine XS.lcmp X109.here hx rfl (hb hby add_d149) rfl ?_
    show Steps p.tables e below (T109.setTop (mkF m 150 #[.val (.ref r0), .val (.long q1), .second, .val (.int p2), .val (.int v53)] [(.int (lcmpW ((jv83_codes.toInt64) * (4 : Int64)) (((1024 : Int32).toInt64) * (3 : Int64))))])) t
    refine XS.ifYes X109.here hx rfl (pc0 := 150) (pc' := 157) rfl (hb hby add_d150) rfl ((if0 _ _).trans (flt (fun q => (own_load hwc hjv83_codes) ((lw_gt ((jv83_codes.toInt64) * (4 : Int64)) (((1024 : Int32).toInt64) * (3 : Int64))).mp q))).2.2.2) (by decide) (by decide) ?_
    exact kt
  obtain ⟨fs, hr, hrun, hended, hW, hsame⟩ := X109.leave (v := none) (fun _ => rfl)
  refine ⟨_, _, ?_, hrun, hended, _, _, rfl, ?_, ⟨_, rfl⟩, hW, hsame.mono (by decide) (by decide)⟩
  · skip
    have q := K110 _ (X109.returnOut hx Bd.returns (hb hby add_d157) hr)
    rw [hP0] at q; exact q
  · show QA Z r0 bH bD bE bN q1 p2 fH fD fE fN wc wp np r h0 n0 _ T109.heap _
    rw [e109]
    subst hv53
    subst hjf83
    subst hjv83_codes
    subst hf92
    subst hf108
    subst hf129
    rw [hrn] at F100 V97' F105 F106
    rw [hpn] at F103 F105
    exact ⟨rfl, N97, Kp97, F98, F99, F101, F102, F104, F100, V97', F103, F105, F106, F107⟩
theorem cpy_d0 : decode jdk_65_method_123_code 0 = .ok (.iload_n 1, 1) := by decide +kernel
theorem cpy_d1 : decode jdk_65_method_123_code 1 = .ok (.aload_n 0, 1) := by decide +kernel
theorem cpy_d2 : decode jdk_65_method_123_code 2 = .ok (.arraylength, 1) := by decide +kernel
theorem cpy_d3 : decode jdk_65_method_123_code 3 = .ok (.if_icmp .ne 11, 3) := by decide +kernel
theorem cpy_d14 : decode jdk_65_method_123_code 14 = .ok (.iload_n 1, 1) := by decide +kernel
theorem cpy_d15 : decode jdk_65_method_123_code 15 = .ok (.newarray .int, 2) := by decide +kernel
theorem cpy_d17 : decode jdk_65_method_123_code 17 = .ok (.astore_n 2, 1) := by decide +kernel
theorem cpy_d18 : decode jdk_65_method_123_code 18 = .ok (.aload_n 0, 1) := by decide +kernel
theorem cpy_d19 : decode jdk_65_method_123_code 19 = .ok (.iconst 0, 1) := by decide +kernel
theorem cpy_d20 : decode jdk_65_method_123_code 20 = .ok (.aload_n 2, 1) := by decide +kernel
theorem cpy_d21 : decode jdk_65_method_123_code 21 = .ok (.iconst 0, 1) := by decide +kernel
theorem cpy_d22 : decode jdk_65_method_123_code 22 = .ok (.aload_n 0, 1) := by decide +kernel
theorem cpy_d23 : decode jdk_65_method_123_code 23 = .ok (.arraylength, 1) := by decide +kernel
theorem cpy_d24 : decode jdk_65_method_123_code 24 = .ok (.iload_n 1, 1) := by decide +kernel
theorem cpy_d25 : decode jdk_65_method_123_code 25 = .ok (.invokestatic 304, 3) := by decide +kernel
theorem cpy_d28 : decode jdk_65_method_123_code 28 = .ok (.invokestatic 150, 3) := by decide +kernel
theorem cpy_d31 : decode jdk_65_method_123_code 31 = .ok (.aload_n 2, 1) := by decide +kernel
theorem cpy_d32 : decode jdk_65_method_123_code 32 = .ok (.areturn, 1) := by decide +kernel
theorem cpy_pn : plainName "java/util/Arrays" = true := by first | (simp [plainName, overriddenIn]; done) | decide +kernel
theorem cpy_pd0 : parseMethodDescriptor "(II)I" = some ⟨[.int, .int], some .int⟩ := by decide +kernel
theorem cpy_ef (m : MethodId) (x0 : Addr) (x1 : Int32) : entryFrame m #[(.ref x0), (.int x1)] 3 = mkF m 0 #[.val (.ref x0), .val (.int x1), .unset] [] := by first | (simp [entryFrame, mkF, argsToLocals, Value.category]; done) | rfl
set_option maxRecDepth 65536 in
set_option maxHeartbeats 40000000 in
theorem rm_cpy (l : Launch) (Z : State) (a0 : Array Value) (hw : ∀ d ∈ tables_1, d.before a0 Z = true) (ws : List Jvm.Cond) (r0 : Addr) (p1 : Int32) (fa : Nat → Int32) (n : Nat) (h0 : Heap) (n0 : Nat) (Z0 : n0 ≤ h0.size) (Va : IA Z h0 r0 .int 16 fa) (hp1 : p1 = Int32.ofNat n) (hn : n < 16) :
    MetFree l (⟨"java/util/Arrays", "copyOf", "([II)[I"⟩ : MethodName) (head1 (Jvm.Cond.code (⟨"java/util/Arrays", "copyOf", "([II)[I"⟩ : MethodName) jdk_65_method_123_code 3 (some (.array .int)) :: ws) ({ frames := 1, cells := 1, slots := 16, locals := 38 } : Room)) (fun a U => a = #[(.ref r0), (.int p1)] ∧ Z.Warmed39 U.vm ∧ U.heap = h0) (fun _ _ _ _ _ => True) (fun _ U o U' => ∃ v L, o = .returned v ∧ QC Z n fa h0 n0 v U'.heap L ∧ FrameEnd U o U' L ({ frames := 1, cells := 1, slots := 16, locals := 38 } : Room).cells ({ frames := 1, cells := 1, slots := 16, locals := 38 } : Room).slots) := by
  refine MetFree.of_bodySF (plainFor_of_name cpy_pn) hisR ?_
  intro p e s m args below meth c s₁ Bd hml0 hP hK
  obtain ⟨rfl, hZ, hh⟩ := hP
  have hx := Bd.exec
  have hby := Bd.bytes
  have hml : c.maxLocals = 3 := hml0
  have hown : s.vm.findClass "java/util/Arrays" = some m.cls := findClass_of_methodNamed Bd.named
  have hnm := (name_of_methodNamed Bd.named Bd.method).1
  have X0 : Stand p l e ({ frames := 1, cells := 1, slots := 16, locals := 38 } : Room) s m #[(.ref r0), (.int p1)] below meth c s₁ [] 0 0 := Stand.of_body Bd
  have e0 : s₁.heap = h0 := by rw [← hh, Bd.state]; rfl
  have N0 := Fr.nil n0
  obtain ⟨P0, hP0⟩ : ∃ P0 : State → Prop, P0 = fun t => Steps p.tables e below (s₁.setTop (entryFrame m #[(.ref r0), (.int p1)] 3)) t := ⟨_, rfl⟩
  have K0 : ∀ t, Steps p.tables e below (s₁.setTop (mkF m 0 #[.val (.ref r0), .val (.int p1), .unset] [])) t → P0 t := by
    intro t k; rw [hP0]; exact castTop (cpy_ef m r0 p1) k
  obtain ⟨T1, h1, k1, X1, e1, E1, A1, st1⟩ := newP X0 hx hZ (hw _ (List.mem_of_getElem? (i := 14) rfl)) e0 (g := (mkF m 15 #[.val (.ref r0), .val (.int p1), .unset] [(.int p1)])) rfl (hb hby cpy_d15) rfl (own_nn hp1 hn) (cap := 16) (by rw [own_len hp1 hn]; omega) (by decide) (by decide) (by decide)
  obtain ⟨b15, g1⟩ : ∃ z, z = h0.size := ⟨_, rfl⟩
  have g_b15 : n0 ≤ b15 := Nat.le_trans Z0 (Nat.le_of_eq g1.symm)
  have ne_r0_b15 : r0 ≠ b15 := Nat.ne_of_lt (Nat.lt_of_lt_of_le Va.lt (Nat.le_of_eq g1.symm))
  rw [← g1] at A1 st1
  have sz_b15 : h0.size ≤ b15 := Nat.le_trans (Keep.refl h0 []).1 (Nat.le_of_eq g1.symm)
  have Z1 : n0 ≤ h1.size := Nat.le_trans Z0 E1.1
  have F2 : IA Z h1 r0 .int 16 fa := Va.ext E1
  obtain ⟨f15, hf15, V1⟩ : ∃ f15 : Nat → Int32, f15 = (fun _ => 0) ∧ IA Z h1 b15 .int n f15 := ⟨_, rfl, IA.new A1 rfl rfl (own_len hp1 hn)⟩
  have Kp1 : Keep h0 h1 [] := (Keep.refl h0 []).ext E1
  obtain ⟨_, _, ⟨T3, L3, k3, n3⟩, -, X3, ⟨Lc3, hQ3, l3, y3, z3⟩, st3⟩ := Jvm.LawKit.callS X1 hx (y := (⟨"java/lang/Math", "min", "(II)I"⟩ : MethodName)) hown (mvT hZ (hw _ (List.mem_of_getElem? (i := 45) rfl))) (mvT hZ (hw _ (List.mem_of_getElem? (i := 46) rfl))) (mvT hZ (hw _ (List.mem_of_getElem? (i := 47) rfl))) (mvT hZ (hw _ (List.mem_of_getElem? (i := 48) rfl))) (by decide) (backOf (W := 4) (rm_min l Z a0 hw [] (16 : Int32) p1 h1 n0 Z1 ) hZ (hw _ (List.mem_of_getElem? (i := 48) rfl)) (hw _ (List.mem_of_getElem? (i := 47) rfl)) (by decide) (by decide)) (g := (mkF m 25 #[.val (.ref r0), .val (.int p1), .val (.ref b15)] [(.int p1), (.int (16 : Int32)), (.int (0 : Int32)), (.ref b15), (.int (0 : Int32)), (.ref r0)])) rfl (by rw [hml]; rfl) (argsL := [(.int (16 : Int32)), (.int p1)]) (rest := [(.int (0 : Int32)), (.ref b15), (.int (0 : Int32)), (.ref r0)]) (lenOf cpy_pd0 rfl) rfl (by show 2 * 0 + _ ≤ _; exact Nat.le_of_eq rfl) (hb hby cpy_d25) (fun _ _ => ⟨rfl, e1, (by decide : 1 + 0 ≤ _), (by decide : 16 + 0 ≤ _)⟩)
  dsimp only [Pt.U, Pt.locs, Pt.cells, Pt.slots] at X3 l3 y3 z3 st3 hQ3
  rw [l3, y3, z3] at X3
  obtain ⟨rfl, N3q, e3⟩ := hQ3
  have N3 := Fr.app N0 N3q
  obtain ⟨T5, h5, L5, X5, e5, N5, Kq5, V5, st5⟩ := cpIA X3 hx hZ hown (hw _ (List.mem_of_getElem? (i := 49) rfl)) (hw _ (List.mem_of_getElem? (i := 52) rfl)) (hw _ (List.mem_of_getElem? (i := 50) rfl)) (hw _ (List.mem_of_getElem? (i := 51) rfl)) e3 F2 V1 rfl (by decide) (by omega) (k := n) (nn := (fMin (16 : Int32) p1)) (own_min hp1 hn) (by omega) (Nat.le_refl _) N3 g_b15 (g := (mkF m 28 #[.val (.ref r0), .val (.int p1), .val (.ref b15)] [(.int (fMin (16 : Int32) p1)), (.int (0 : Int32)), (.ref b15), (.int (0 : Int32)), (.ref r0)])) rfl (by rw [hml]; rfl) rfl (hb hby cpy_d28) (by decide) (W := 0) (by show 2 * 0 + _ ≤ _; exact Nat.le_of_eq rfl) (by decide)
  have Z5 : n0 ≤ h5.size := Nat.le_trans Z1 Kq5.1
  have F6 : IA Z h5 r0 .int 16 fa := F2.keep Kq5 (ninS ne_r0_b15 nin0)
  have F7 : IA Z h5 b15 .int n fa := (IA.mono V5 rfl fun j hj => (if_pos hj).symm)
  have Kp5 : Keep h0 h5 [] := Kp1.trans Kq5 (allS (Or.inr sz_b15) all0)
  have K8 : ∀ t, Steps p.tables e below (T5.setTop (mkF m 32 #[.val (.ref r0), .val (.int p1), .val (.ref b15)] [(.ref b15)])) t → P0 t := by
    intro t kt
    refine K0 t ?_
    show Steps p.tables e below (s₁.setTop (mkF m 0 #[.val (.ref r0), .val (.int p1), .unset] [])) t
    refine XS.iloadN X0.here hx rfl (hb hby cpy_d0) rfl ?_
    show Steps p.tables e below (s₁.setTop (mkF m 1 #[.val (.ref r0), .val (.int p1), .unset] [(.int p1)])) t
    refine XS.aloadN X0.here hx rfl (hb hby cpy_d1) rfl rfl ?_
    show Steps p.tables e below (s₁.setTop (mkF m 2 #[.val (.ref r0), .val (.int p1), .unset] [(.ref r0), (.int p1)])) t
    refine lnIA X0 hx hZ e0 Va (z := (16 : Int32)) (by decide) (g := (mkF m 2 #[.val (.ref r0), .val (.int p1), .unset] [(.ref r0), (.int p1)])) rfl rfl (hb hby cpy_d2) _ ?_
    show Steps p.tables e below (s₁.setTop (mkF m 3 #[.val (.ref r0), .val (.int p1), .unset] [(.int (16 : Int32)), (.int p1)])) t
    refine XS.icmpYes X0.here hx rfl (pc0 := 3) (pc' := 14) rfl (hb hby cpy_d3) rfl (feq (own_ne16 hp1 hn)).2 (by decide) (by decide) ?_
    show Steps p.tables e below (s₁.setTop (mkF m 14 #[.val (.ref r0), .val (.int p1), .unset] [])) t
    refine XS.iloadN X0.here hx rfl (hb hby cpy_d14) rfl ?_
    show Steps p.tables e below (s₁.setTop (mkF m 15 #[.val (.ref r0), .val (.int p1), .unset] [(.int p1)])) t
    refine st1 _ ?_
    show Steps p.tables e below (T1.setTop (mkF m 17 #[.val (.ref r0), .val (.int p1), .unset] [(.ref b15)])) t
    refine XS.astoreN X1.here hx rfl (hb hby cpy_d17) rfl rfl (l' := #[.val (.ref r0), .val (.int p1), .val (.ref b15)]) rfl ?_
    show Steps p.tables e below (T1.setTop (mkF m 18 #[.val (.ref r0), .val (.int p1), .val (.ref b15)] [])) t
    refine XS.aloadN X1.here hx rfl (hb hby cpy_d18) rfl rfl ?_
    show Steps p.tables e below (T1.setTop (mkF m 19 #[.val (.ref r0), .val (.int p1), .val (.ref b15)] [(.ref r0)])) t
    refine XS.iconst X1.here hx rfl (hb hby cpy_d19) ?_
    show Steps p.tables e below (T1.setTop (mkF m 20 #[.val (.ref r0), .val (.int p1), .val (.ref b15)] [(.int (0 : Int32)), (.ref r0)])) t
    refine XS.aloadN X1.here hx rfl (hb hby cpy_d20) rfl rfl ?_
    show Steps p.tables e below (T1.setTop (mkF m 21 #[.val (.ref r0), .val (.int p1), .val (.ref b15)] [(.ref b15), (.int (0 : Int32)), (.ref r0)])) t
    refine XS.iconst X1.here hx rfl (hb hby cpy_d21) ?_
    show Steps p.tables e below (T1.setTop (mkF m 22 #[.val (.ref r0), .val (.int p1), .val (.ref b15)] [(.int (0 : Int32)), (.ref b15), (.int (0 : Int32)), (.ref r0)])) t
    refine XS.aloadN X1.here hx rfl (hb hby cpy_d22) rfl rfl ?_
    show Steps p.tables e below (T1.setTop (mkF m 23 #[.val (.ref r0), .val (.int p1), .val (.ref b15)] [(.ref r0), (.int (0 : Int32)), (.ref b15), (.int (0 : Int32)), (.ref r0)])) t
    refine lnIA X1 hx hZ e1 F2 (z := (16 : Int32)) (by decide) (g := (mkF m 23 #[.val (.ref r0), .val (.int p1), .val (.ref b15)] [(.ref r0), (.int (0 : Int32)), (.ref b15), (.int (0 : Int32)), (.ref r0)])) rfl rfl (hb hby cpy_d23) _ ?_
    show Steps p.tables e below (T1.setTop (mkF m 24 #[.val (.ref r0), .val (.int p1), .val (.ref b15)] [(.int (16 : Int32)), (.int (0 : Int32)), (.ref b15), (.int (0 : Int32)), (.ref r0)])) t
    refine XS.iloadN X1.here hx rfl (hb hby cpy_d24) rfl ?_
    show Steps p.tables e below (T1.setTop (mkF m 25 #[.val (.ref r0), .val (.int p1), .val (.ref b15)] [(.int p1), (.int (16 : Int32)), (.int (0 : Int32)), (.ref b15), (.int (0 : Int32)), (.ref r0)])) t
    refine st3 _ ?_
    show Steps p.tables e below (T3.setTop (mkF m 28 #[.val (.ref r0), .val (.int p1), .val (.ref b15)] [(.int (fMin (16 : Int32) p1)), (.int (0 : Int32)), (.ref b15), (.int (0 : Int32)), (.ref r0)])) t
    refine st5 _ ?_
    show Steps p.tables e below (T5.setTop (mkF m 31 #[.val (.ref r0), .val (.int p1), .val (.ref b15)] [])) t
    refine XS.aloadN X5.here hx rfl (hb hby cpy_d31) rfl rfl ?_
    exact kt
  obtain ⟨fs, hr, hrun, hended, hW, hsame⟩ := X5.leave (v := some (.ref b15)) (fun h => by rw [Bd.returns] at h; cases h)
  refine ⟨_, _, ?_, hrun, hended, _, _, rfl, ?_, ⟨_, rfl⟩, hW, hsame.mono (by decide) (by decide)⟩
  · skip
    have q := K8 _ (retOut X5 hx Bd.returns rfl (Or.inr (Or.inr (Or.inr (Or.inr ⟨rfl, rfl, rfl⟩)))) (hb hby cpy_d32) hr)
    rw [hP0] at q; exact q
  · show QC Z n fa h0 n0 _ T5.heap _
    rw [e5]
    exact ⟨b15, rfl, N5, Kp5, sz_b15, F7⟩
theorem evs_d0 : decode prog_26_method_4_code 0 = .ok (.bipush 16, 2) := by decide +kernel
theorem evs_d2 : decode prog_26_method_4_code 2 = .ok (.newarray .int, 2) := by decide +kernel
theorem evs_d4 : decode prog_26_method_4_code 4 = .ok (.astore 4, 2) := by decide +kernel
theorem evs_d6 : decode prog_26_method_4_code 6 = .ok (.iconst 0, 1) := by decide +kernel
theorem evs_d7 : decode prog_26_method_4_code 7 = .ok (.istore 5, 2) := by decide +kernel
theorem evs_d9 : decode prog_26_method_4_code 9 = .ok (.aload_n 0, 1) := by decide +kernel
theorem evs_d10 : decode prog_26_method_4_code 10 = .ok (.getfield 13, 3) := by decide +kernel
theorem evs_d13 : decode prog_26_method_4_code 13 = .ok (.aload_n 0, 1) := by decide +kernel
theorem evs_d14 : decode prog_26_method_4_code 14 = .ok (.lload_n 1, 1) := by decide +kernel
theorem evs_d15 : decode prog_26_method_4_code 15 = .ok (.invokevirtual 51, 3) := by decide +kernel
theorem evs_d18 : decode prog_26_method_4_code 18 = .ok (.iaload, 1) := by decide +kernel
theorem evs_d19 : decode prog_26_method_4_code 19 = .ok (.istore 6, 2) := by decide +kernel
theorem evs_d21 : decode prog_26_method_4_code 21 = .ok (.iload 6, 2) := by decide +kernel
theorem evs_d23 : decode prog_26_method_4_code 23 = .ok (.ifCond .eq 63, 3) := by decide +kernel
theorem evs_d26 : decode prog_26_method_4_code 26 = .ok (.aload_n 0, 1) := by decide +kernel
theorem evs_d27 : decode prog_26_method_4_code 27 = .ok (.getfield 17, 3) := by decide +kernel
theorem evs_d30 : decode prog_26_method_4_code 30 = .ok (.iload 6, 2) := by decide +kernel
theorem evs_d32 : decode prog_26_method_4_code 32 = .ok (.iconst 1, 1) := by decide +kernel
theorem evs_d33 : decode prog_26_method_4_code 33 = .ok (.isub, 1) := by decide +kernel
theorem evs_d34 : decode prog_26_method_4_code 34 = .ok (.iaload, 1) := by decide +kernel
theorem evs_d35 : decode prog_26_method_4_code 35 = .ok (.istore 7, 2) := by decide +kernel
theorem evs_d37 : decode prog_26_method_4_code 37 = .ok (.iload 7, 2) := by decide +kernel
theorem evs_d39 : decode prog_26_method_4_code 39 = .ok (.iload_n 3, 1) := by decide +kernel
theorem evs_d40 : decode prog_26_method_4_code 40 = .ok (.if_icmp .ge 32, 3) := by decide +kernel
theorem evs_d43 : decode prog_26_method_4_code 43 = .ok (.iload 5, 2) := by decide +kernel
theorem evs_d45 : decode prog_26_method_4_code 45 = .ok (.aload 4, 2) := by decide +kernel
theorem evs_d47 : decode prog_26_method_4_code 47 = .ok (.arraylength, 1) := by decide +kernel
theorem evs_d48 : decode prog_26_method_4_code 48 = .ok (.if_icmp .ne 14, 3) := by decide +kernel
theorem evs_d62 : decode prog_26_method_4_code 62 = .ok (.aload 4, 2) := by decide +kernel
theorem evs_d64 : decode prog_26_method_4_code 64 = .ok (.iload 5, 2) := by decide +kernel
theorem evs_d66 : decode prog_26_method_4_code 66 = .ok (.iinc 5 1, 3) := by decide +kernel
theorem evs_d69 : decode prog_26_method_4_code 69 = .ok (.iload 7, 2) := by decide +kernel
theorem evs_d71 : decode prog_26_method_4_code 71 = .ok (.iastore, 1) := by decide +kernel
theorem evs_d72 : decode prog_26_method_4_code 72 = .ok (.aload_n 0, 1) := by decide +kernel
theorem evs_d73 : decode prog_26_method_4_code 73 = .ok (.getfield 20, 3) := by decide +kernel
theorem evs_d76 : decode prog_26_method_4_code 76 = .ok (.iload 6, 2) := by decide +kernel
theorem evs_d78 : decode prog_26_method_4_code 78 = .ok (.iconst 1, 1) := by decide +kernel
theorem evs_d79 : decode prog_26_method_4_code 79 = .ok (.isub, 1) := by decide +kernel
theorem evs_d80 : decode prog_26_method_4_code 80 = .ok (.iaload, 1) := by decide +kernel
theorem evs_d81 : decode prog_26_method_4_code 81 = .ok (.istore 6, 2) := by decide +kernel
theorem evs_d83 : decode prog_26_method_4_code 83 = .ok (.goto (-62), 3) := by decide +kernel
theorem evs_d86 : decode prog_26_method_4_code 86 = .ok (.aload 4, 2) := by decide +kernel
theorem evs_d88 : decode prog_26_method_4_code 88 = .ok (.iload 5, 2) := by decide +kernel
theorem evs_d90 : decode prog_26_method_4_code 90 = .ok (.invokestatic 45, 3) := by decide +kernel
theorem evs_d93 : decode prog_26_method_4_code 93 = .ok (.areturn, 1) := by decide +kernel
theorem evs_pn : plainName "com/example/auditspur/auditspur/core/store/Postings" = true := by first | (simp [plainName, overriddenIn]; done) | decide +kernel
theorem evs_pd0 : parseMethodDescriptor "(J)I" = some ⟨[.long], some .int⟩ := by decide +kernel
theorem evs_pd1 : parseMethodDescriptor "([II)[I" = some ⟨[(.array .int), .int], some (.array .int)⟩ := by decide +kernel
theorem evs_ef (m : MethodId) (x0 : Addr) (x1 : Int64) (x2 : Int32) : entryFrame m #[(.ref x0), (.long x1), (.int x2)] 8 = mkF m 0 #[.val (.ref x0), .val (.long x1), .second, .val (.int x2), .unset, .unset, .unset, .unset] [] := by first | (simp [entryFrame, mkF, argsToLocals, Value.category]; done) | rfl
set_option maxRecDepth 65536 in
set_option maxHeartbeats 40000000 in
theorem rm_evs (l : Launch) (Z : State) (a0 : Array Value) (hw : ∀ d ∈ tables_1, d.before a0 Z = true) (ws : List Jvm.Cond) (r0 : Addr) (q1 : Int64) (p2 : Int32) (bH bD bE bN : Addr) (fH : Nat → Int64) (fD fE fN : Nat → Int32) (wc wp : Int32) (k r : Nat) (es : List Nat) (h0 : Heap) (n0 : Nat) (Z0 : n0 ≤ h0.size) (E0 : Exa Z h0 r0 "com/example/auditspur/auditspur/core/store/Postings") (F_hashes : Fld Z h0 r0 "com/example/auditspur/auditspur/core/store/Postings" "hashes" "[J" (.ref bH)) (F_heads : Fld Z h0 r0 "com/example/auditspur/auditspur/core/store/Postings" "heads" "[I" (.ref bD)) (F_events : Fld Z h0 r0 "com/example/auditspur/auditspur/core/store/Postings" "events" "[I" (.ref bE)) (F_next : Fld Z h0 r0 "com/example/auditspur/auditspur/core/store/Postings" "next" "[I" (.ref bN)) (V_hashes : JA Z h0 bH 1024 fH) (V_heads : IA Z h0 bD .int 1024 fD) (V_events : IA Z h0 bE .int 1024 fE) (V_next : IA Z h0 bN .int 1024 fN) (F_codes : Fld Z h0 r0 "com/example/auditspur/auditspur/core/store/Postings" "codes" "I" (.int wc)) (F_postings : Fld Z h0 r0 "com/example/auditspur/auditspur/core/store/Postings" "postings" "I" (.int wp)) (hsl : slotEnd fD fH q1 k (idx q1) r) (hch : isChain fN (fD r) es) (hes : es.length ≤ 15) :
    MetFree l (⟨"com/example/auditspur/auditspur/core/store/Postings", "events", "(JI)[I"⟩ : MethodName) (head1 (Jvm.Cond.code (⟨"com/example/auditspur/auditspur/core/store/Postings", "events", "(JI)[I"⟩ : MethodName) prog_26_method_4_code 8 (some (.array .int)) :: ws) ({ frames := 2, cells := 2, slots := 32, locals := 52 } : Room)) (fun a U => a = #[(.ref r0), (.long q1), (.int p2)] ∧ Z.Warmed39 U.vm ∧ U.heap = h0) (fun _ _ _ _ _ => True) (fun _ U o U' => ∃ v L, o = .returned v ∧ QE Z (coll fE p2 es) h0 n0 v U'.heap L ∧ FrameEnd U o U' L ({ frames := 2, cells := 2, slots := 32, locals := 52 } : Room).cells ({ frames := 2, cells := 2, slots := 32, locals := 52 } : Room).slots) := by
  refine MetFree.of_bodySF (plainFor_of_name evs_pn) hisR ?_
  intro p e s m args below meth c s₁ Bd hml0 hP hK
  obtain ⟨rfl, hZ, hh⟩ := hP
  have hx := Bd.exec
  have hby := Bd.bytes
  have hml : c.maxLocals = 8 := hml0
  have hown : s.vm.findClass "com/example/auditspur/auditspur/core/store/Postings" = some m.cls := findClass_of_methodNamed Bd.named
  have hnm := (name_of_methodNamed Bd.named Bd.method).1
  have X0 : Stand p l e ({ frames := 2, cells := 2, slots := 32, locals := 52 } : Room) s m #[(.ref r0), (.long q1), (.int p2)] below meth c s₁ [] 0 0 := Stand.of_body Bd
  have e0 : s₁.heap = h0 := by rw [← hh, Bd.state]; rfl
  have N0 := Fr.nil n0
  have hrl := (slotEnd.lt k _ _ hsl).2
  have hrin : ¬ ((Int32.ofNat r) < 0 ∨ 1024 ≤ (Int32.ofNat r).toNatClampNeg) := own_ofNat_in hrl (by decide)
  have hrn : (Int32.ofNat r).toNatClampNeg = r := own_ofNat_nat (by omega)
  have hcl : (coll fE p2 es).length ≤ es.length := own_coll fE p2 es
  obtain ⟨P0, hP0⟩ : ∃ P0 : State → Prop, P0 = fun t => Steps p.tables e below (s₁.setTop (entryFrame m #[(.ref r0), (.long q1), (.int p2)] 8)) t := ⟨_, rfl⟩
  have K0 : ∀ t, Steps p.tables e below (s₁.setTop (mkF m 0 #[.val (.ref r0), .val (.long q1), .second, .val (.int p2), .unset, .unset, .unset, .unset] [])) t → P0 t := by
    intro t k; rw [hP0]; exact castTop (evs_ef m r0 q1 p2) k
  obtain ⟨T1, h1, k1, X1, e1, E1, A1, st1⟩ := newP X0 hx hZ (hw _ (List.mem_of_getElem? (i := 14) rfl)) e0 (g := (mkF m 2 #[.val (.ref r0), .val (.long q1), .second, .val (.int p2), .unset, .unset, .unset, .unset] [(.int (16 : Int32))])) rfl (hb hby evs_d2) rfl (by decide) (cap := 16) (by decide) (by decide) (by decide) (by decide)
  obtain ⟨b2, g1⟩ : ∃ z, z = h0.size := ⟨_, rfl⟩
  have g_b2 : n0 ≤ b2 := Nat.le_trans Z0 (Nat.le_of_eq g1.symm)
  have ne_r0_b2 : r0 ≠ b2 := Nat.ne_of_lt (Nat.lt_of_lt_of_le E0.lt (Nat.le_of_eq g1.symm))
  have ne_bH_b2 : bH ≠ b2 := Nat.ne_of_lt (Nat.lt_of_lt_of_le V_hashes.lt (Nat.le_of_eq g1.symm))
  have ne_bD_b2 : bD ≠ b2 := Nat.ne_of_lt (Nat.lt_of_lt_of_le V_heads.lt (Nat.le_of_eq g1.symm))
  have ne_bE_b2 : bE ≠ b2 := Nat.ne_of_lt (Nat.lt_of_lt_of_le V_events.lt (Nat.le_of_eq g1.symm))
  have ne_bN_b2 : bN ≠ b2 := Nat.ne_of_lt (Nat.lt_of_lt_of_le V_next.lt (Nat.le_of_eq g1.symm))
  rw [← g1] at A1 st1
  have sz_b2 : h0.size ≤ b2 := Nat.le_trans (Keep.refl h0 []).1 (Nat.le_of_eq g1.symm)
  have Z1 : n0 ≤ h1.size := Nat.le_trans Z0 E1.1
  have F2 : Exa Z h1 r0 "com/example/auditspur/auditspur/core/store/Postings" := Exa.ext E1 E0
  have F3 : Fld Z h1 r0 "com/example/auditspur/auditspur/core/store/Postings" "hashes" "[J" (.ref bH) := Fld.ext E1 F_hashes
  have F4 : JA Z h1 bH 1024 fH := V_hashes.ext E1
  have F5 : Fld Z h1 r0 "com/example/auditspur/auditspur/core/store/Postings" "heads" "[I" (.ref bD) := Fld.ext E1 F_heads
  have F6 : IA Z h1 bD .int 1024 fD := V_heads.ext E1
  have F7 : Fld Z h1 r0 "com/example/auditspur/auditspur/core/store/Postings" "events" "[I" (.ref bE) := Fld.ext E1 F_events
  have F8 : IA Z h1 bE .int 1024 fE := V_events.ext E1
  have F9 : Fld Z h1 r0 "com/example/auditspur/auditspur/core/store/Postings" "next" "[I" (.ref bN) := Fld.ext E1 F_next
  have F10 : IA Z h1 bN .int 1024 fN := V_next.ext E1
  have F11 : Fld Z h1 r0 "com/example/auditspur/auditspur/core/store/Postings" "codes" "I" (.int wc) := Fld.ext E1 F_codes
  have F12 : Fld Z h1 r0 "com/example/auditspur/auditspur/core/store/Postings" "postings" "I" (.int wp) := Fld.ext E1 F_postings
  obtain ⟨f2, hf2, V1⟩ : ∃ f2 : Nat → Int32, f2 = (fun _ => 0) ∧ IA Z h1 b2 .int 16 f2 := ⟨_, rfl, IA.new A1 rfl rfl (by decide)⟩
  have Kp1 : Keep h0 h1 [] := (Keep.refl h0 []).ext E1
  obtain ⟨T13, X13, e13, st13⟩ := getF X1 hx hZ hown (host := "") (Or.inl (hw _ (List.mem_of_getElem? (i := 15) rfl))) Via.refl e1 F5 (g := (mkF m 10 #[.val (.ref r0), .val (.long q1), .second, .val (.int p2), .val (.ref b2), .val (.int (0 : Int32)), .unset, .unset] [(.ref r0)])) rfl rfl (hb hby evs_d10)
  obtain ⟨cq14, q14, q14'⟩ := F2.cell
  obtain ⟨_, _, ⟨T14, L14, k14, n14⟩, -, X14, ⟨Lc14, hQ14, l14, y14, z14⟩, st14⟩ := X13.privateBack hx (y := (⟨"com/example/auditspur/auditspur/core/store/Postings", "slot", "(J)I"⟩ : MethodName)) hown (mvT hZ (hw _ (List.mem_of_getElem? (i := 28) rfl))) (mvT hZ (hw _ (List.mem_of_getElem? (i := 29) rfl))) (own_selp hZ (hw _ (List.mem_of_getElem? (i := 3) rfl)) (hw _ (List.mem_of_getElem? (i := 29) rfl)) (hw _ (List.mem_of_getElem? (i := 30) rfl)) (by decide)) (Cond.privateMethod_at (mvP hZ (hw _ (List.mem_of_getElem? (i := 30) rfl)) (args := #[]))) (mvT hZ (hw _ (List.mem_of_getElem? (i := 31) rfl))) (by decide) (backOf (W := 1) (rm_slt l Z a0 hw [] r0 q1 bH bD bE bN fH fD fE fN wc wp k r h1 n0 Z1 F2 F3 F5 F7 F9 F4 F6 F8 F10 F11 F12 hsl) hZ (hw _ (List.mem_of_getElem? (i := 31) rfl)) (hw _ (List.mem_of_getElem? (i := 4) rfl)) (by decide) (by decide)) (g := (mkF m 15 #[.val (.ref r0), .val (.long q1), .second, .val (.int p2), .val (.ref b2), .val (.int (0 : Int32)), .unset, .unset] [(.long q1), (.ref r0), (.ref bD)])) rfl (by rw [hml]; rfl) (Steps.refl _) (a := r0) (by rw [e13]; exact q14) q14' (argsL := [(.long q1)]) (rest := [(.ref bD)]) (lenOf evs_pd0 rfl) rfl (by show 2 * 0 + _ ≤ _; exact Nat.le_of_eq rfl) (hb hby evs_d15) (fun _ _ => ⟨rfl, e13, (by decide : 1 + 0 ≤ _), (by decide : 16 + 0 ≤ _)⟩)
  dsimp only [Pt.U, Pt.locs, Pt.cells, Pt.slots] at X14 l14 y14 z14 st14 hQ14
  rw [l14, y14, z14] at X14
  obtain ⟨rfl, N14q, e14⟩ := hQ14
  have N14 := Fr.app N0 N14q
  have K15 : ∀ t, Steps p.tables e below (T14.setTop (mkF m 21 #[.val (.ref r0), .val (.long q1), .second, .val (.int p2), .val (.ref b2), .val (.int (0 : Int32)), .val (.int (fD ((Int32.ofNat r)).toNatClampNeg)), .unset] [])) t → P0 t := by
    intro t kt
    refine K0 t ?_
    show Steps p.tables e below (s₁.setTop (mkF m 0 #[.val (.ref r0), .val (.long q1), .second, .val (.int p2), .unset, .unset, .unset, .unset] [])) t
    refine XS.bipush X0.here hx rfl (hb hby evs_d0) ?_
    show Steps p.tables e below (s₁.setTop (mkF m 2 #[.val (.ref r0), .val (.long q1), .second, .val (.int p2), .unset, .unset, .unset, .unset] [(.int (16 : Int32))])) t
    refine st1 _ ?_
    show Steps p.tables e below (T1.setTop (mkF m 4 #[.val (.ref r0), .val (.long q1), .second, .val (.int p2), .unset, .unset, .unset, .unset] [(.ref b2)])) t
    refine XS.astore X1.here hx rfl (hb hby evs_d4) rfl rfl (l' := #[.val (.ref r0), .val (.long q1), .second, .val (.int p2), .val (.ref b2), .unset, .unset, .unset]) rfl ?_
    show Steps p.tables e below (T1.setTop (mkF m 6 #[.val (.ref r0), .val (.long q1), .second, .val (.int p2), .val (.ref b2), .unset, .unset, .unset] [])) t
    refine XS.iconst X1.here hx rfl (hb hby evs_d6) ?_
    show Steps p.tables e below (T1.setTop (mkF m 7 #[.val (.ref r0), .val (.long q1), .second, .val (.int p2), .val (.ref b2), .unset, .unset, .unset] [(.int (0 : Int32))])) t
    refine XS.istore X1.here hx rfl (hb hby evs_d7) rfl (l' := #[.val (.ref r0), .val (.long q1), .second, .val (.int p2), .val (.ref b2), .val (.int (0 : Int32)), .unset, .unset]) rfl ?_
    show Steps p.tables e below (T1.setTop (mkF m 9 #[.val (.ref r0), .val (.long q1), .second, .val (.int p2), .val (.ref b2), .val (.int (0 : Int32)), .unset, .unset] [])) t
    refine XS.aloadN X1.here hx rfl (hb hby evs_d9) rfl rfl ?_
    show Steps p.tables e below (T1.setTop (mkF m 10 #[.val (.ref r0), .val (.long q1), .second, .val (.int p2), .val (.ref b2), .val (.int (0 : Int32)), .unset, .unset] [(.ref r0)])) t
    refine st13 _ ?_
    show Steps p.tables e below (T13.setTop (mkF m 13 #[.val (.ref r0), .val (.long q1), .second, .val (.int p2), .val (.ref b2), .val (.int (0 : Int32)), .unset, .unset] [(.ref bD)])) t
    refine XS.aloadN X13.here hx rfl (hb hby evs_d13) rfl rfl ?_
    show Steps p.tables e below (T13.setTop (mkF m 14 #[.val (.ref r0), .val (.long q1), .second, .val (.int p2), .val (.ref b2), .val (.int (0 : Int32)), .unset, .unset] [(.ref r0), (.ref bD)])) t
    refine XS.lloadN X13.here hx rfl (hb hby evs_d14) rfl ?_
    show Steps p.tables e below (T13.setTop (mkF m 15 #[.val (.ref r0), .val (.long q1), .second, .val (.int p2), .val (.ref b2), .val (.int (0 : Int32)), .unset, .unset] [(.long q1), (.ref r0), (.ref bD)])) t
    refine st14.trans ?_
    show Steps p.tables e below (T14.setTop (mkF m 18 #[.val (.ref r0), .val (.long q1), .second, .val (.int p2), .val (.ref b2), .val (.int (0 : Int32)), .unset, .unset] [(.int (Int32.ofNat r)), (.ref bD)])) t
    refine ldIA X14 hx hZ e14 F6 (j := (Int32.ofNat r)) hrin (g := (mkF m 18 #[.val (.ref r0), .val (.long q1), .second, .val (.int p2), .val (.ref b2), .val (.int (0 : Int32)), .unset, .unset] [(.int (Int32.ofNat r)), (.ref bD)])) rfl rfl (hb hby evs_d18) _ ?_
    show Steps p.tables e below (T14.setTop (mkF m 19 #[.val (.ref r0), .val (.long q1), .second, .val (.int p2), .val (.ref b2), .val (.int (0 : Int32)), .unset, .unset] [(.int (fD ((Int32.ofNat r)).toNatClampNeg))])) t
    refine XS.istore X14.here hx rfl (hb hby evs_d19) rfl (l' := #[.val (.ref r0), .val (.long q1), .second, .val (.int p2), .val (.ref b2), .val (.int (0 : Int32)), .val (.int (fD ((Int32.ofNat r)).toNatClampNeg)), .unset]) rfl ?_
    exact kt
  obtain ⟨v19, hv19, K16⟩ : ∃ v19 : Int32, v19 = (fD ((Int32.ofNat r)).toNatClampNeg) ∧ ∀ t, Steps p.tables e below (T14.setTop (mkF m 21 #[.val (.ref r0), .val (.long q1), .second, .val (.int p2), .val (.ref b2), .val (.int (0 : Int32)), .val (.int v19), .unset] [])) t → P0 t := ⟨_, rfl, K15⟩
  have KL : ∀ (es : List Nat) (acc : List Int32) (z5 z6 : Int32) (s7 : Slot) (T : State) (hh : Heap) (lc : List Loc) (fr : Nat → Int32), z5 = Int32.ofNat acc.length → isChain fN z6 es → acc.length + es.length ≤ 15 → (∀ j, j < acc.length → fr j = acc.getD j 0) → One s7 → Stand p l e ({ frames := 2, cells := 2, slots := 32, locals := 52 } : Room) s m #[(.ref r0), (.long q1), (.int p2)] below meth c T lc 1 16 → T.heap = hh → Fr n0 lc → n0 ≤ hh.size → Keep h1 hh [b2] → IA Z hh b2 .int 16 fr → ∃ (z6' : Int32) (s7' : Slot) (T' : State) (h' : Heap) (lc' : List Loc) (fr' : Nat → Int32), Stand p l e ({ frames := 2, cells := 2, slots := 32, locals := 52 } : Room) s m #[(.ref r0), (.long q1), (.int p2)] below meth c T' lc' 1 16 ∧ T'.heap = h' ∧ Fr n0 lc' ∧ n0 ≤ h'.size ∧ Keep h1 h' [b2] ∧ IA Z h' b2 .int 16 fr' ∧ (∀ j, j < (acc ++ (coll fE p2 es)).length → fr' j = (acc ++ (coll fE p2 es)).getD j 0) ∧ ∀ t, Steps p.tables e below (T'.setTop (mkF m 86 #[.val (.ref r0), .val (.long q1), .second, .val (.int p2), .val (.ref b2), .val (.int (Int32.ofNat (acc ++ (coll fE p2 es)).length)), .val (.int z6'), s7'] [])) t → Steps p.tables e below (T.setTop (mkF m 21 #[.val (.ref r0), .val (.long q1), .second, .val (.int p2), .val (.ref b2), .val (.int z5), .val (.int z6), s7] [])) t := by
    intro es; induction es with
    | nil =>
      intro acc z5 z6 s7 T hh lc fr h5 hch hle hac ho7 X eT NT ZT KT VT
      have hz6 : z6 = (0 : Int32) := hch
      subst h5
      rw [show coll fE p2 [] = [] from rfl, List.append_nil]
      obtain ⟨P1, hP1⟩ : ∃ P : State → Prop, P = fun t => Steps p.tables e below (T.setTop (mkF m 21 #[.val (.ref r0), .val (.long q1), .second, .val (.int p2), .val (.ref b2), .val (.int (Int32.ofNat acc.length)), .val (.int z6), s7] [])) t := ⟨_, rfl⟩
      have KP : ∀ t, Steps p.tables e below (T.setTop (mkF m 21 #[.val (.ref r0), .val (.long q1), .second, .val (.int p2), .val (.ref b2), .val (.int (Int32.ofNat acc.length)), .val (.int z6), s7] [])) t → P1 t := by rw [hP1]; exact fun t k => k
      have K17 : ∀ t, Steps p.tables e below (T.setTop (mkF m 86 #[.val (.ref r0), .val (.long q1), .second, .val (.int p2), .val (.ref b2), .val (.int (Int32.ofNat acc.length)), .val (.int z6), s7] [])) t → P1 t := by
        intro t kt
        refine KP t ?_
        show Steps p.tables e below (T.setTop (mkF m 21 #[.val (.ref r0), .val (.long q1), .second, .val (.int p2), .val (.ref b2), .val (.int (Int32.ofNat acc.length)), .val (.int z6), s7] [])) t
        refine XS.iload X.here hx rfl (hb hby evs_d21) rfl ?_
        show Steps p.tables e below (T.setTop (mkF m 23 #[.val (.ref r0), .val (.long q1), .second, .val (.int p2), .val (.ref b2), .val (.int (Int32.ofNat acc.length)), .val (.int z6), s7] [(.int z6)])) t
        refine XS.ifYes X.here hx rfl (pc0 := 23) (pc' := 86) rfl (hb hby evs_d23) rfl ((if0 _ _).trans (teq hz6).1) (by decide) (by decide) ?_
        exact kt
      rw [hP1] at K17
      exact ⟨_, _, T, hh, lc, fr, X, eT, NT, ZT, KT, VT, hac, K17⟩
    | cons jj js ih =>
      intro acc z5 z6 s7 T hh lc fr h5 hch hle hac ho7 X eT NT ZT KT VT
      obtain ⟨hz6, hjj, hrest⟩ := hch
      subst h5 hz6
      rw [List.length_cons] at hle
      have Fe : Fld Z hh r0 "com/example/auditspur/auditspur/core/store/Postings" "events" "[I" (.ref bE) := F7.keep KT (ninS ne_r0_b2 nin0)
      have Fn : Fld Z hh r0 "com/example/auditspur/auditspur/core/store/Postings" "next" "[I" (.ref bN) := F9.keep KT (ninS ne_r0_b2 nin0)
      have Ve : IA Z hh bE .int 1024 fE := F8.keep KT (ninS ne_bE_b2 nin0)
      have Vn : IA Z hh bN .int 1024 fN := F10.keep KT (ninS ne_bN_b2 nin0)
      obtain ⟨P1, hP1⟩ : ∃ P : State → Prop, P = fun t => Steps p.tables e below (T.setTop (mkF m 21 #[.val (.ref r0), .val (.long q1), .second, .val (.int p2), .val (.ref b2), .val (.int (Int32.ofNat acc.length)), .val (.int (Int32.ofNat (jj + 1))), s7] [])) t := ⟨_, rfl⟩
      have KP : ∀ t, Steps p.tables e below (T.setTop (mkF m 21 #[.val (.ref r0), .val (.long q1), .second, .val (.int p2), .val (.ref b2), .val (.int (Int32.ofNat acc.length)), .val (.int (Int32.ofNat (jj + 1))), s7] [])) t → P1 t := by rw [hP1]; exact fun t k => k
      have hne0 : ¬ (Int32.ofNat (jj + 1)) = (0 : Int32) := own_ne0 (by omega)
      have hpr : ((Int32.ofNat (jj + 1)) - (1 : Int32)) = Int32.ofNat jj := own_pred jj
      have hix : ((Int32.ofNat (jj + 1)) - (1 : Int32)).toNatClampNeg = jj := by rw [hpr]; exact own_ofNat_nat (by omega)
      have hin : ¬ (((Int32.ofNat (jj + 1)) - (1 : Int32)) < 0 ∨ 1024 ≤ ((Int32.ofNat (jj + 1)) - (1 : Int32)).toNatClampNeg) := by rw [hpr]; exact own_ofNat_in hjj (by decide)
      have hac16 : ¬ (Int32.ofNat acc.length) = (16 : Int32) := own_ne16' (by omega)
      have hin5 : ¬ ((Int32.ofNat acc.length) < 0 ∨ 16 ≤ (Int32.ofNat acc.length).toNatClampNeg) := own_ofNat_in (by omega) (by decide)
      obtain ⟨T18, X18, e18, st18⟩ := getF X hx hZ hown (host := "") (Or.inl (hw _ (List.mem_of_getElem? (i := 17) rfl))) Via.refl eT Fe (g := (mkF m 27 #[.val (.ref r0), .val (.long q1), .second, .val (.int p2), .val (.ref b2), .val (.int (Int32.ofNat acc.length)), .val (.int (Int32.ofNat (jj + 1))), s7] [(.ref r0)])) rfl rfl (hb hby evs_d27)
      have K19 : ∀ t, Steps p.tables e below (T18.setTop (mkF m 40 #[.val (.ref r0), .val (.long q1), .second, .val (.int p2), .val (.ref b2), .val (.int (Int32.ofNat acc.length)), .val (.int (Int32.ofNat (jj + 1))), .val (.int (fE (((Int32.ofNat (jj + 1)) - (1 : Int32))).toNatClampNeg))] [(.int p2), (.int (fE (((Int32.ofNat (jj + 1)) - (1 : Int32))).toNatClampNeg))])) t → P1 t := by
        intro t kt
        refine KP t ?_
        show Steps p.tables e below (T.setTop (mkF m 21 #[.val (.ref r0), .val (.long q1), .second, .val (.int p2), .val (.ref b2), .val (.int (Int32.ofNat acc.length)), .val (.int (Int32.ofNat (jj + 1))), s7] [])) t
        refine XS.iload X.here hx rfl (hb hby evs_d21) rfl ?_
        show Steps p.tables e below (T.setTop (mkF m 23 #[.val (.ref r0), .val (.long q1), .second, .val (.int p2), .val (.ref b2), .val (.int (Int32.ofNat acc.length)), .val (.int (Int32.ofNat (jj + 1))), s7] [(.int (Int32.ofNat (jj + 1)))])) t
        refine XS.ifNo X.here hx rfl (hb hby evs_d23) rfl ((if0 _ _).trans (feq hne0).1) ?_
        show Steps p.tables e below (T.setTop (mkF m 26 #[.val (.ref r0), .val (.long q1), .second, .val (.int p2), .val (.ref b2), .val (.int (Int32.ofNat acc.length)), .val (.int (Int32.ofNat (jj + 1))), s7] [])) t
        refine XS.aloadN X.here hx rfl (hb hby evs_d26) rfl rfl ?_
        show Steps p.tables e below (T.setTop (mkF m 27 #[.val (.ref r0), .val (.long q1), .second, .val (.int p2), .val (.ref b2), .val (.int (Int32.ofNat acc.length)), .val (.int (Int32.ofNat (jj + 1))), s7] [(.ref r0)])) t
        refine st18 _ ?_
        show Steps p.tables e below (T18.setTop (mkF m 30 #[.val (.ref r0), .val (.long q1), .second, .val (.int p2), .val (.ref b2), .val (.int (Int32.ofNat acc.length)), .val (.int (Int32.ofNat (jj + 1))), s7] [(.ref bE)])) t
        refine XS.iload X18.here hx rfl (hb hby evs_d30) rfl ?_
        show Steps p.tables e below (T18.setTop (mkF m 32 #[.val (.ref r0), .val (.long q1), .second, .val (.int p2), .val (.ref b2), .val (.int (Int32.ofNat acc.length)), .val (.int (Int32.ofNat (jj + 1))), s7] [(.int (Int32.ofNat (jj + 1))), (.ref bE)])) t
        refine XS.iconst X18.here hx rfl (hb hby evs_d32) ?_
        show Steps p.tables e below (T18.setTop (mkF m 33 #[.val (.ref r0), .val (.long q1), .second, .val (.int p2), .val (.ref b2), .val (.int (Int32.ofNat acc.length)), .val (.int (Int32.ofNat (jj + 1))), s7] [(.int (1 : Int32)), (.int (Int32.ofNat (jj + 1))), (.ref bE)])) t
        refine XS.isub X18.here hx rfl (hb hby evs_d33) rfl ?_
        show Steps p.tables e below (T18.setTop (mkF m 34 #[.val (.ref r0), .val (.long q1), .second, .val (.int p2), .val (.ref b2), .val (.int (Int32.ofNat acc.length)), .val (.int (Int32.ofNat (jj + 1))), s7] [(.int ((Int32.ofNat (jj + 1)) - (1 : Int32))), (.ref bE)])) t
        refine ldIA X18 hx hZ e18 Ve (j := ((Int32.ofNat (jj + 1)) - (1 : Int32))) hin (g := (mkF m 34 #[.val (.ref r0), .val (.long q1), .second, .val (.int p2), .val (.ref b2), .val (.int (Int32.ofNat acc.length)), .val (.int (Int32.ofNat (jj + 1))), s7] [(.int ((Int32.ofNat (jj + 1)) - (1 : Int32))), (.ref bE)])) rfl rfl (hb hby evs_d34) _ ?_
        show Steps p.tables e below (T18.setTop (mkF m 35 #[.val (.ref r0), .val (.long q1), .second, .val (.int p2), .val (.ref b2), .val (.int (Int32.ofNat acc.length)), .val (.int (Int32.ofNat (jj + 1))), s7] [(.int (fE (((Int32.ofNat (jj + 1)) - (1 : Int32))).toNatClampNeg))])) t
        refine XS.istore X18.here hx rfl (hb hby evs_d35) rfl (l' := #[.val (.ref r0), .val (.long q1), .second, .val (.int p2), .val (.ref b2), .val (.int (Int32.ofNat acc.length)), .val (.int (Int32.ofNat (jj + 1))), .val (.int (fE (((Int32.ofNat (jj + 1)) - (1 : Int32))).toNatClampNeg))]) (XS.store1 (o := s7) rfl ho7 rfl) ?_
        show Steps p.tables e below (T18.setTop (mkF m 37 #[.val (.ref r0), .val (.long q1), .second, .val (.int p2), .val (.ref b2), .val (.int (Int32.ofNat acc.length)), .val (.int (Int32.ofNat (jj + 1))), .val (.int (fE (((Int32.ofNat (jj + 1)) - (1 : Int32))).toNatClampNeg))] [])) t
        refine XS.iload X18.here hx rfl (hb hby evs_d37) rfl ?_
        show Steps p.tables e below (T18.setTop (mkF m 39 #[.val (.ref r0), .val (.long q1), .second, .val (.int p2), .val (.ref b2), .val (.int (Int32.ofNat acc.length)), .val (.int (Int32.ofNat (jj + 1))), .val (.int (fE (((Int32.ofNat (jj + 1)) - (1 : Int32))).toNatClampNeg))] [(.int (fE (((Int32.ofNat (jj + 1)) - (1 : Int32))).toNatClampNeg))])) t
        refine XS.iloadN X18.here hx rfl (hb hby evs_d39) rfl ?_
        exact kt
      by_cases hev : (fE (((Int32.ofNat (jj + 1)) - (1 : Int32))).toNatClampNeg) < p2
      · have hev' : fE jj < p2 := by rw [hix] at hev; exact hev
        obtain ⟨T20, h20, X20, e20, ⟨sl20, vv20, W20⟩, V20, st20⟩ := stIA X18 hx hZ e18 VT (j := (Int32.ofNat acc.length)) (x := (fE (((Int32.ofNat (jj + 1)) - (1 : Int32))).toNatClampNeg)) hin5 (g := (mkF m 71 #[.val (.ref r0), .val (.long q1), .second, .val (.int p2), .val (.ref b2), .val (.int ((Int32.ofNat acc.length) + (1 : Int32))), .val (.int (Int32.ofNat (jj + 1))), .val (.int (fE (((Int32.ofNat (jj + 1)) - (1 : Int32))).toNatClampNeg))] [(.int (fE (((Int32.ofNat (jj + 1)) - (1 : Int32))).toNatClampNeg)), (.int (Int32.ofNat acc.length)), (.ref b2)])) rfl rfl (hb hby evs_d71)
        have Z20 : n0 ≤ h20.size := Nat.le_trans ZT (Keep.of_wr W20).1
        have N20 := Fr.snoc X20 NT g_b2
        have F21 : Fld Z h20 r0 "com/example/auditspur/auditspur/core/store/Postings" "events" "[I" (.ref bE) := Fld.other W20 Fe (Or.inl ne_r0_b2)
        have F22 : Fld Z h20 r0 "com/example/auditspur/auditspur/core/store/Postings" "next" "[I" (.ref bN) := Fld.other W20 Fn (Or.inl ne_r0_b2)
        have F23 : IA Z h20 bE .int 1024 fE := Ve.other W20 ne_bE_b2
        have F24 : IA Z h20 bN .int 1024 fN := Vn.other W20 ne_bN_b2
        obtain ⟨f71, hf71, V20'⟩ : ∃ f71 : Nat → Int32, f71 = (upd fr ((Int32.ofNat acc.length)).toNatClampNeg (fE (((Int32.ofNat (jj + 1)) - (1 : Int32))).toNatClampNeg)) ∧ IA Z h20 b2 .int 16 f71 := ⟨_, rfl, V20⟩
        obtain ⟨T25, X25, e25, st25⟩ := getF X20 hx hZ hown (host := "") (Or.inl (hw _ (List.mem_of_getElem? (i := 19) rfl))) Via.refl e20 F22 (g := (mkF m 73 #[.val (.ref r0), .val (.long q1), .second, .val (.int p2), .val (.ref b2), .val (.int ((Int32.ofNat acc.length) + (1 : Int32))), .val (.int (Int32.ofNat (jj + 1))), .val (.int (fE (((Int32.ofNat (jj + 1)) - (1 : Int32))).toNatClampNeg))] [(.ref r0)])) rfl rfl (hb hby evs_d73)
        have K26 : ∀ t, Steps p.tables e below (T25.setTop (mkF m 21 #[.val (.ref r0), .val (.long q1), .second, .val (.int p2), .val (.ref b2), .val (.int ((Int32.ofNat acc.length) + (1 : Int32))), .val (.int (fN (((Int32.ofNat (jj + 1)) - (1 : Int32))).toNatClampNeg)), .val (.int (fE (((Int32.ofNat (jj + 1)) - (1 : Int32))).toNatClampNeg))] [])) t → P1 t := by
          intro t kt
          refine K19 t ?_
          show Steps p.tables e below (T18.setTop (mkF m 40 #[.val (.ref r0), .val (.long q1), .second, .val (.int p2), .val (.ref b2), .val (.int (Int32.ofNat acc.length)), .val (.int (Int32.ofNat (jj + 1))), .val (.int (fE (((Int32.ofNat (jj + 1)) - (1 : Int32))).toNatClampNeg))] [(.int p2), (.int (fE (((Int32.ofNat (jj + 1)) - (1 : Int32))).toNatClampNeg))])) t
          refine XS.icmpNo X18.here hx rfl (hb hby evs_d40) rfl (tlt hev).2.1 ?_
          show Steps p.tables e below (T18.setTop (mkF m 43 #[.val (.ref r0), .val (.long q1), .second, .val (.int p2), .val (.ref b2), .val (.int (Int32.ofNat acc.length)), .val (.int (Int32.ofNat (jj + 1))), .val (.int (fE (((Int32.ofNat (jj + 1)) - (1 : Int32))).toNatClampNeg))] [])) t
          refine XS.iload X18.here hx rfl (hb hby evs_d43) rfl ?_
          show Steps p.tables e below (T18.setTop (mkF m 45 #[.val (.ref r0), .val (.long q1), .second, .val (.int p2), .val (.ref b2), .val (.int (Int32.ofNat acc.length)), .val (.int (Int32.ofNat (jj + 1))), .val (.int (fE (((Int32.ofNat (jj + 1)) - (1 : Int32))).toNatClampNeg))] [(.int (Int32.ofNat acc.length))])) t
          refine XS.aload X18.here hx rfl (hb hby evs_d45) rfl rfl ?_
          show Steps p.tables e below (T18.setTop (mkF m 47 #[.val (.ref r0), .val (.long q1), .second, .val (.int p2), .val (.ref b2), .val (.int (Int32.ofNat acc.length)), .val (.int (Int32.ofNat (jj + 1))), .val (.int (fE (((Int32.ofNat (jj + 1)) - (1 : Int32))).toNatClampNeg))] [(.ref b2), (.int (Int32.ofNat acc.length))])) t
          refine lnIA X18 hx hZ e18 VT (z := (16 : Int32)) (by decide) (g := (mkF m 47 #[.val (.ref r0), .val (.long q1), .second, .val (.int p2), .val (.ref b2), .val (.int (Int32.ofNat acc.length)), .val (.int (Int32.ofNat (jj + 1))), .val (.int (fE (((Int32.ofNat (jj + 1)) - (1 : Int32))).toNatClampNeg))] [(.ref b2), (.int (Int32.ofNat acc.length))])) rfl rfl (hb hby evs_d47) _ ?_
          show Steps p.tables e below (T18.setTop (mkF m 48 #[.val (.ref r0), .val (.long q1), .second, .val (.int p2), .val (.ref b2), .val (.int (Int32.ofNat acc.length)), .val (.int (Int32.ofNat (jj + 1))), .val (.int (fE (((Int32.ofNat (jj + 1)) - (1 : Int32))).toNatClampNeg))] [(.int (16 : Int32)), (.int (Int32.ofNat acc.length))])) t
          refine XS.icmpYes X18.here hx rfl (pc0 := 48) (pc' := 62) rfl (hb hby evs_d48) rfl (feq hac16).2 (by decide) (by decide) ?_
          show Steps p.tables e below (T18.setTop (mkF m 62 #[.val (.ref r0), .val (.long q1), .second, .val (.int p2), .val (.ref b2), .val (.int (Int32.ofNat acc.length)), .val (.int (Int32.ofNat (jj + 1))), .val (.int (fE (((Int32.ofNat (jj + 1)) - (1 : Int32))).toNatClampNeg))] [])) t
          refine XS.aload X18.here hx rfl (hb hby evs_d62) rfl rfl ?_
          show Steps p.tables e below (T18.setTop (mkF m 64 #[.val (.ref r0), .val (.long q1), .second, .val (.int p2), .val (.ref b2), .val (.int (Int32.ofNat acc.length)), .val (.int (Int32.ofNat (jj + 1))), .val (.int (fE (((Int32.ofNat (jj + 1)) - (1 : Int32))).toNatClampNeg))] [(.ref b2)])) t
          refine XS.iload X18.here hx rfl (hb hby evs_d64) rfl ?_
          show Steps p.tables e below (T18.setTop (mkF m 66 #[.val (.ref r0), .val (.long q1), .second, .val (.int p2), .val (.ref b2), .val (.int (Int32.ofNat acc.length)), .val (.int (Int32.ofNat (jj + 1))), .val (.int (fE (((Int32.ofNat (jj + 1)) - (1 : Int32))).toNatClampNeg))] [(.int (Int32.ofNat acc.length)), (.ref b2)])) t
          refine XS.iinc X18.here hx rfl (hb hby evs_d66) rfl (l' := #[.val (.ref r0), .val (.long q1), .second, .val (.int p2), .val (.ref b2), .val (.int ((Int32.ofNat acc.length) + (1 : Int32))), .val (.int (Int32.ofNat (jj + 1))), .val (.int (fE (((Int32.ofNat (jj + 1)) - (1 : Int32))).toNatClampNeg))]) rfl ?_
          show Steps p.tables e below (T18.setTop (mkF m 69 #[.val (.ref r0), .val (.long q1), .second, .val (.int p2), .val (.ref b2), .val (.int ((Int32.ofNat acc.length) + (1 : Int32))), .val (.int (Int32.ofNat (jj + 1))), .val (.int (fE (((Int32.ofNat (jj + 1)) - (1 : Int32))).toNatClampNeg))] [(.int (Int32.ofNat acc.length)), (.ref b2)])) t
          refine XS.iload X18.here hx rfl (hb hby evs_d69) rfl ?_
          show Steps p.tables e below (T18.setTop (mkF m 71 #[.val (.ref r0), .val (.long q1), .second, .val (.int p2), .val (.ref b2), .val (.int ((Int32.ofNat acc.length) + (1 : Int32))), .val (.int (Int32.ofNat (jj + 1))), .val (.int (fE (((Int32.ofNat (jj + 1)) - (1 : Int32))).toNatClampNeg))] [(.int (fE (((Int32.ofNat (jj + 1)) - (1 : Int32))).toNatClampNeg)), (.int (Int32.ofNat acc.length)), (.ref b2)])) t
          refine st20 _ ?_
          show Steps p.tables e below (T20.setTop (mkF m 72 #[.val (.ref r0), .val (.long q1), .second, .val (.int p2), .val (.ref b2), .val (.int ((Int32.ofNat acc.length) + (1 : Int32))), .val (.int (Int32.ofNat (jj + 1))), .val (.int (fE (((Int32.ofNat (jj + 1)) - (1 : Int32))).toNatClampNeg))] [])) t
          refine XS.aloadN X20.here hx rfl (hb hby evs_d72) rfl rfl ?_
          show Steps p.tables e below (T20.setTop (mkF m 73 #[.val (.ref r0), .val (.long q1), .second, .val (.int p2), .val (.ref b2), .val (.int ((Int32.ofNat acc.length) + (1 : Int32))), .val (.int (Int32.ofNat (jj + 1))), .val (.int (fE (((Int32.ofNat (jj + 1)) - (1 : Int32))).toNatClampNeg))] [(.ref r0)])) t
          refine st25 _ ?_
          show Steps p.tables e below (T25.setTop (mkF m 76 #[.val (.ref r0), .val (.long q1), .second, .val (.int p2), .val (.ref b2), .val (.int ((Int32.ofNat acc.length) + (1 : Int32))), .val (.int (Int32.ofNat (jj + 1))), .val (.int (fE (((Int32.ofNat (jj + 1)) - (1 : Int32))).toNatClampNeg))] [(.ref bN)])) t
          refine XS.iload X25.here hx rfl (hb hby evs_d76) rfl ?_
          show Steps p.tables e below (T25.setTop (mkF m 78 #[.val (.ref r0), .val (.long q1), .second, .val (.int p2), .val (.ref b2), .val (.int ((Int32.ofNat acc.length) + (1 : Int32))), .val (.int (Int32.ofNat (jj + 1))), .val (.int (fE (((Int32.ofNat (jj + 1)) - (1 : Int32))).toNatClampNeg))] [(.int (Int32.ofNat (jj + 1))), (.ref bN)])) t
          refine XS.iconst X25.here hx rfl (hb hby evs_d78) ?_
          show Steps p.tables e below (T25.setTop (mkF m 79 #[.val (.ref r0), .val (.long q1), .second, .val (.int p2), .val (.ref b2), .val (.int ((Int32.ofNat acc.length) + (1 : Int32))), .val (.int (Int32.ofNat (jj + 1))), .val (.int (fE (((Int32.ofNat (jj + 1)) - (1 : Int32))).toNatClampNeg))] [(.int (1 : Int32)), (.int (Int32.ofNat (jj + 1))), (.ref bN)])) t
          refine XS.isub X25.here hx rfl (hb hby evs_d79) rfl ?_
          show Steps p.tables e below (T25.setTop (mkF m 80 #[.val (.ref r0), .val (.long q1), .second, .val (.int p2), .val (.ref b2), .val (.int ((Int32.ofNat acc.length) + (1 : Int32))), .val (.int (Int32.ofNat (jj + 1))), .val (.int (fE (((Int32.ofNat (jj + 1)) - (1 : Int32))).toNatClampNeg))] [(.int ((Int32.ofNat (jj + 1)) - (1 : Int32))), (.ref bN)])) t
          refine ldIA X25 hx hZ e25 F24 (j := ((Int32.ofNat (jj + 1)) - (1 : Int32))) hin (g := (mkF m 80 #[.val (.ref r0), .val (.long q1), .second, .val (.int p2), .val (.ref b2), .val (.int ((Int32.ofNat acc.length) + (1 : Int32))), .val (.int (Int32.ofNat (jj + 1))), .val (.int (fE (((Int32.ofNat (jj + 1)) - (1 : Int32))).toNatClampNeg))] [(.int ((Int32.ofNat (jj + 1)) - (1 : Int32))), (.ref bN)])) rfl rfl (hb hby evs_d80) _ ?_
          show Steps p.tables e below (T25.setTop (mkF m 81 #[.val (.ref r0), .val (.long q1), .second, .val (.int p2), .val (.ref b2), .val (.int ((Int32.ofNat acc.length) + (1 : Int32))), .val (.int (Int32.ofNat (jj + 1))), .val (.int (fE (((Int32.ofNat (jj + 1)) - (1 : Int32))).toNatClampNeg))] [(.int (fN (((Int32.ofNat (jj + 1)) - (1 : Int32))).toNatClampNeg))])) t
          refine XS.istore X25.here hx rfl (hb hby evs_d81) rfl (l' := #[.val (.ref r0), .val (.long q1), .second, .val (.int p2), .val (.ref b2), .val (.int ((Int32.ofNat acc.length) + (1 : Int32))), .val (.int (fN (((Int32.ofNat (jj + 1)) - (1 : Int32))).toNatClampNeg)), .val (.int (fE (((Int32.ofNat (jj + 1)) - (1 : Int32))).toNatClampNeg))]) rfl ?_
          show Steps p.tables e below (T25.setTop (mkF m 83 #[.val (.ref r0), .val (.long q1), .second, .val (.int p2), .val (.ref b2), .val (.int ((Int32.ofNat acc.length) + (1 : Int32))), .val (.int (fN (((Int32.ofNat (jj + 1)) - (1 : Int32))).toNatClampNeg)), .val (.int (fE (((Int32.ofNat (jj + 1)) - (1 : Int32))).toNatClampNeg))] [])) t
          refine XS.goto X25.here hx rfl (pc0 := 83) (pc' := 21) rfl (hb hby evs_d83) (by decide) (by decide) ?_
          exact kt
        rw [hP1] at K26
        rw [show coll fE p2 (jj :: js) = fE jj :: coll fE p2 js from if_pos hev', show acc ++ fE jj :: coll fE p2 js = (acc ++ [fE jj]) ++ coll fE p2 js by simp]
        obtain ⟨z6', s7', T', h', lc', fr', X', e', N', Z', K', V', A', KK⟩ := ih (acc ++ [fE jj]) ((Int32.ofNat acc.length) + (1 : Int32)) (fN (((Int32.ofNat (jj + 1)) - (1 : Int32))).toNatClampNeg) (.val (.int (fE (((Int32.ofNat (jj + 1)) - (1 : Int32))).toNatClampNeg))) T25 h20 _ f71 (by rw [List.length_append]; exact own_ofNat_succ _) (by rw [hix]; exact hrest) (by rw [List.length_append]; simp; omega) (own_acc hac hf71 hix) (One.val rfl) X25 e25 N20 Z20 (KT.wr W20 (Or.inl (List.mem_of_getElem? (i := 0) rfl))) V20'
        exact ⟨z6', s7', T', h', lc', fr', X', e', N', Z', K', V', A', fun t kt => K26 t (KK t kt)⟩
      · have hev' : ¬ fE jj < p2 := by rw [hix] at hev; exact hev
        obtain ⟨T27, X27, e27, st27⟩ := getF X18 hx hZ hown (host := "") (Or.inl (hw _ (List.mem_of_getElem? (i := 19) rfl))) Via.refl e18 Fn (g := (mkF m 73 #[.val (.ref r0), .val (.long q1), .second, .val (.int p2), .val (.ref b2), .val (.int (Int32.ofNat acc.length)), .val (.int (Int32.ofNat (jj + 1))), .val (.int (fE (((Int32.ofNat (jj + 1)) - (1 : Int32))).toNatClampNeg))] [(.ref r0)])) rfl rfl (hb hby evs_d73)
        have K28 : ∀ t, Steps p.tables e below (T27.setTop (mkF m 21 #[.val (.ref r0), .val (.long q1), .second, .val (.int p2), .val (.ref b2), .val (.int (Int32.ofNat acc.length)), .val (.int (fN (((Int32.ofNat (jj + 1)) - (1 : Int32))).toNatClampNeg)), .val (.int (fE (((Int32.ofNat (jj + 1)) - (1 : Int32))).toNatClampNeg))] [])) t → P1 t := by
          intro t kt
          refine K19 t ?_
          show Steps p.tables e below (T18.setTop (mkF m 40 #[.val (.ref r0), .val (.long q1), .second, .val (.int p2), .val (.ref b2), .val (.int (Int32.ofNat acc.length)), .val (.int (Int32.ofNat (jj + 1))), .val (.int (fE (((Int32.ofNat (jj + 1)) - (1 : Int32))).toNatClampNeg))] [(.int p2), (.int (fE (((Int32.ofNat (jj + 1)) - (1 : Int32))).toNatClampNeg))])) t
          refine XS.icmpYes X18.here hx rfl (pc0 := 40) (pc' := 72) rfl (hb hby evs_d40) rfl (flt hev).2.1 (by decide) (by decide) ?_
          show Steps p.tables e below (T18.setTop (mkF m 72 #[.val (.ref r0), .val (.long q1), .second, .val (.int p2), .val (.ref b2), .val (.int (Int32.ofNat acc.length)), .val (.int (Int32.ofNat (jj + 1))), .val (.int (fE (((Int32.ofNat (jj + 1)) - (1 : Int32))).toNatClampNeg))] [])) t
          refine XS.aloadN X18.here hx rfl (hb hby evs_d72) rfl rfl ?_
          show Steps p.tables e below (T18.setTop (mkF m 73 #[.val (.ref r0), .val (.long q1), .second, .val (.int p2), .val (.ref b2), .val (.int (Int32.ofNat acc.length)), .val (.int (Int32.ofNat (jj + 1))), .val (.int (fE (((Int32.ofNat (jj + 1)) - (1 : Int32))).toNatClampNeg))] [(.ref r0)])) t
          refine st27 _ ?_
          show Steps p.tables e below (T27.setTop (mkF m 76 #[.val (.ref r0), .val (.long q1), .second, .val (.int p2), .val (.ref b2), .val (.int (Int32.ofNat acc.length)), .val (.int (Int32.ofNat (jj + 1))), .val (.int (fE (((Int32.ofNat (jj + 1)) - (1 : Int32))).toNatClampNeg))] [(.ref bN)])) t
          refine XS.iload X27.here hx rfl (hb hby evs_d76) rfl ?_
          show Steps p.tables e below (T27.setTop (mkF m 78 #[.val (.ref r0), .val (.long q1), .second, .val (.int p2), .val (.ref b2), .val (.int (Int32.ofNat acc.length)), .val (.int (Int32.ofNat (jj + 1))), .val (.int (fE (((Int32.ofNat (jj + 1)) - (1 : Int32))).toNatClampNeg))] [(.int (Int32.ofNat (jj + 1))), (.ref bN)])) t
          refine XS.iconst X27.here hx rfl (hb hby evs_d78) ?_
          show Steps p.tables e below (T27.setTop (mkF m 79 #[.val (.ref r0), .val (.long q1), .second, .val (.int p2), .val (.ref b2), .val (.int (Int32.ofNat acc.length)), .val (.int (Int32.ofNat (jj + 1))), .val (.int (fE (((Int32.ofNat (jj + 1)) - (1 : Int32))).toNatClampNeg))] [(.int (1 : Int32)), (.int (Int32.ofNat (jj + 1))), (.ref bN)])) t
          refine XS.isub X27.here hx rfl (hb hby evs_d79) rfl ?_
          show Steps p.tables e below (T27.setTop (mkF m 80 #[.val (.ref r0), .val (.long q1), .second, .val (.int p2), .val (.ref b2), .val (.int (Int32.ofNat acc.length)), .val (.int (Int32.ofNat (jj + 1))), .val (.int (fE (((Int32.ofNat (jj + 1)) - (1 : Int32))).toNatClampNeg))] [(.int ((Int32.ofNat (jj + 1)) - (1 : Int32))), (.ref bN)])) t
          refine ldIA X27 hx hZ e27 Vn (j := ((Int32.ofNat (jj + 1)) - (1 : Int32))) hin (g := (mkF m 80 #[.val (.ref r0), .val (.long q1), .second, .val (.int p2), .val (.ref b2), .val (.int (Int32.ofNat acc.length)), .val (.int (Int32.ofNat (jj + 1))), .val (.int (fE (((Int32.ofNat (jj + 1)) - (1 : Int32))).toNatClampNeg))] [(.int ((Int32.ofNat (jj + 1)) - (1 : Int32))), (.ref bN)])) rfl rfl (hb hby evs_d80) _ ?_
          show Steps p.tables e below (T27.setTop (mkF m 81 #[.val (.ref r0), .val (.long q1), .second, .val (.int p2), .val (.ref b2), .val (.int (Int32.ofNat acc.length)), .val (.int (Int32.ofNat (jj + 1))), .val (.int (fE (((Int32.ofNat (jj + 1)) - (1 : Int32))).toNatClampNeg))] [(.int (fN (((Int32.ofNat (jj + 1)) - (1 : Int32))).toNatClampNeg))])) t
          refine XS.istore X27.here hx rfl (hb hby evs_d81) rfl (l' := #[.val (.ref r0), .val (.long q1), .second, .val (.int p2), .val (.ref b2), .val (.int (Int32.ofNat acc.length)), .val (.int (fN (((Int32.ofNat (jj + 1)) - (1 : Int32))).toNatClampNeg)), .val (.int (fE (((Int32.ofNat (jj + 1)) - (1 : Int32))).toNatClampNeg))]) rfl ?_
          show Steps p.tables e below (T27.setTop (mkF m 83 #[.val (.ref r0), .val (.long q1), .second, .val (.int p2), .val (.ref b2), .val (.int (Int32.ofNat acc.length)), .val (.int (fN (((Int32.ofNat (jj + 1)) - (1 : Int32))).toNatClampNeg)), .val (.int (fE (((Int32.ofNat (jj + 1)) - (1 : Int32))).toNatClampNeg))] [])) t
          refine XS.goto X27.here hx rfl (pc0 := 83) (pc' := 21) rfl (hb hby evs_d83) (by decide) (by decide) ?_
          exact kt
        rw [hP1] at K28
        rw [show coll fE p2 (jj :: js) = coll fE p2 js from if_neg hev']
        obtain ⟨z6', s7', T', h', lc', fr', X', e', N', Z', K', V', A', KK⟩ := ih acc _ (fN (((Int32.ofNat (jj + 1)) - (1 : Int32))).toNatClampNeg) (.val (.int (fE (((Int32.ofNat (jj + 1)) - (1 : Int32))).toNatClampNeg))) T27 hh _ fr rfl (by rw [hix]; exact hrest) (by omega) hac (One.val rfl) X27 e27 NT ZT KT VT
        exact ⟨z6', s7', T', h', lc', fr', X', e', N', Z', K', V', A', fun t kt => K28 t (KK t kt)⟩
  obtain ⟨z6, s7, TR, hR, lcR, frR, XR, eR, NR, ZR, KeR, VR, AR, KR⟩ := KL es [] (0 : Int32) v19 .unset T14 h1 _ f2 rfl (by rw [hv19, hrn]; exact hch) (by simp; omega) (fun j hj => absurd hj (Nat.not_lt_zero _)) One.u X14 e14 N14 Z1 (Keep.refl _ _) V1
  have KZ : ∀ t, Steps p.tables e below (TR.setTop (mkF m 86 #[.val (.ref r0), .val (.long q1), .second, .val (.int p2), .val (.ref b2), .val (.int (Int32.ofNat (coll fE p2 es).length)), .val (.int z6), s7] [])) t → P0 t := fun t kt => K16 t (KR t kt)
  have KpR : Keep h0 hR [] := Kp1.trans KeR (allS (Or.inr sz_b2) all0)
  have VR2 : IA Z hR b2 .int 16 frR := VR
  obtain ⟨_, _, ⟨T29, L29, k29, n29⟩, -, X29, ⟨Lc29, hQ29, l29, y29, z29⟩, st29⟩ := Jvm.LawKit.callS XR hx (y := (⟨"java/util/Arrays", "copyOf", "([II)[I"⟩ : MethodName)) hown (mvT hZ (hw _ (List.mem_of_getElem? (i := 41) rfl))) (mvT hZ (hw _ (List.mem_of_getElem? (i := 42) rfl))) (mvT hZ (hw _ (List.mem_of_getElem? (i := 43) rfl))) (mvT hZ (hw _ (List.mem_of_getElem? (i := 44) rfl))) (by decide) (backOf (W := 0) (rm_cpy l Z a0 hw [] b2 (Int32.ofNat (coll fE p2 es).length) frR (coll fE p2 es).length hR n0 ZR VR2 rfl (by omega)) hZ (hw _ (List.mem_of_getElem? (i := 44) rfl)) (hw _ (List.mem_of_getElem? (i := 43) rfl)) (by decide) (by decide)) (g := (mkF m 90 #[.val (.ref r0), .val (.long q1), .second, .val (.int p2), .val (.ref b2), .val (.int (Int32.ofNat (coll fE p2 es).length)), .val (.int z6), s7] [(.int (Int32.ofNat (coll fE p2 es).length)), (.ref b2)])) rfl (by rw [hml]; rfl) (argsL := [(.ref b2), (.int (Int32.ofNat (coll fE p2 es).length))]) (rest := []) (lenOf evs_pd1 rfl) rfl (by show 2 * 0 + _ ≤ _; exact Nat.le_of_eq rfl) (hb hby evs_d90) (fun _ _ => ⟨rfl, eR, (by decide : 1 + 1 ≤ _), (by decide : 16 + 16 ≤ _)⟩)
  dsimp only [Pt.U, Pt.locs, Pt.cells, Pt.slots] at X29 l29 y29 z29 st29 hQ29
  rw [l29, y29, z29] at X29
  obtain ⟨h29, e29⟩ : ∃ z, T29.heap = z := ⟨_, rfl⟩
  rw [e29] at hQ29
  obtain ⟨b90, rfl, N29q, Kq29, gs_b90, F30⟩ := hQ29
  have N29 := Fr.app NR N29q
  have g_b90 : n0 ≤ b90 := Nat.le_trans ZR gs_b90
  have ne_b2_b90 : b2 ≠ b90 := Nat.ne_of_lt (Nat.lt_of_lt_of_le VR2.lt gs_b90)
  have sz_b90 : h0.size ≤ b90 := Nat.le_trans KpR.1 gs_b90
  have Z29 : n0 ≤ h29.size := Nat.le_trans ZR Kq29.1
  have F31 : IA Z h29 b2 .int 16 frR := VR2.keep Kq29 nin0
  have Kp29 : Keep h0 h29 [] := KpR.trans Kq29 all0
  have K32 : ∀ t, Steps p.tables e below (T29.setTop (mkF m 93 #[.val (.ref r0), .val (.long q1), .second, .val (.int p2), .val (.ref b2), .val (.int (Int32.ofNat (coll fE p2 es).length)), .val (.int z6), s7] [(.ref b90)])) t → P0 t := by
    intro t kt
    refine KZ t ?_
    show Steps p.tables e below (TR.setTop (mkF m 86 #[.val (.ref r0), .val (.long q1), .second, .val (.int p2), .val (.ref b2), .val (.int (Int32.ofNat (coll fE p2 es).length)), .val (.int z6), s7] [])) t
    refine XS.aload XR.here hx rfl (hb hby evs_d86) rfl rfl ?_
    show Steps p.tables e below (TR.setTop (mkF m 88 #[.val (.ref r0), .val (.long q1), .second, .val (.int p2), .val (.ref b2), .val (.int (Int32.ofNat (coll fE p2 es).length)), .val (.int z6), s7] [(.ref b2)])) t
    refine XS.iload XR.here hx rfl (hb hby evs_d88) rfl ?_
    show Steps p.tables e below (TR.setTop (mkF m 90 #[.val (.ref r0), .val (.long q1), .second, .val (.int p2), .val (.ref b2), .val (.int (Int32.ofNat (coll fE p2 es).length)), .val (.int z6), s7] [(.int (Int32.ofNat (coll fE p2 es).length)), (.ref b2)])) t
    refine st29 _ ?_
    exact kt
  obtain ⟨fs, hr, hrun, hended, hW, hsame⟩ := X29.leave (v := some (.ref b90)) (fun h => by rw [Bd.returns] at h; cases h)
  refine ⟨_, _, ?_, hrun, hended, _, _, rfl, ?_, ⟨_, rfl⟩, hW, hsame.mono (by decide) (by decide)⟩
  · skip
    have q := K32 _ (retOut X29 hx Bd.returns rfl (Or.inr (Or.inr (Or.inr (Or.inr ⟨rfl, rfl, rfl⟩)))) (hb hby evs_d93) hr)
    rw [hP0] at q; exact q
  · show QE Z (coll fE p2 es) h0 n0 _ T29.heap _
    rw [e29]
    exact ⟨b90, rfl, N29, Kp29, sz_b90, IA.mono F30 rfl fun j hj => (AR j hj).symm⟩
def sr2 (a b : Int64) : Nat := if b = a then idx a else if idx b = idx a then (idx a + 1) % 1024 else idx b
def sk2 (a b : Int64) : Nat := if b = a then 0 else if idx b = idx a then 1 else 0
def es1 (a b : Int64) : List Nat := if b = a then [2, 1, 0] else [2, 0]
def es2 (a b : Int64) : List Nat := if b = a then [2, 1, 0] else [1]
theorem own_sr2_ne {a b : Int64} (h : ¬ b = a) : sr2 a b ≠ idx a := by
  have l := own_idx_lt a
  unfold sr2; rw [if_neg h]; split
  · omega
  · assumption
theorem own_sr2_lt (a b : Int64) : sr2 a b < 1024 := by
  have l := own_idx_lt a; have l2 := own_idx_lt b
  unfold sr2; split
  · exact l
  · split
    · exact Nat.mod_lt _ (by decide)
    · exact l2
theorem own_s1 (q : Int64) : slotEnd (fun _ => 0) (fun _ => 0) q 0 (idx q) (idx q) := ⟨rfl, own_idx_lt q, Or.inl rfl⟩
section St
variable {q0 h2 : Int64} {fH1 fH2 fH3 : Nat → Int64} {fD1 fD2 fD3 fE1 fE2 fE3 fN1 fN2 fN3 : Nat → Int32} {wp1 wp2 p2 p3 p4 : Int32}
theorem own_D1 (hfD1 : fD1 = (upd (fun _ => 0) (idx q0) ((0 : Int32) + 1))) (i : Nat) : fD1 i = if i = idx q0 then 1 else 0 := by
  rw [hfD1]; unfold upd; split <;> rfl
theorem own_H1 (hfH1 : fH1 = (if (fun _ => (0 : Int32)) (idx q0) = 0 then updJ (fun _ => 0) (idx q0) q0 else (fun _ => 0))) : fH1 (idx q0) = q0 := by
  rw [hfH1, if_pos rfl]; unfold updJ; rw [if_pos rfl]
theorem own_D1ne (hfD1 : fD1 = (upd (fun _ => 0) (idx q0) ((0 : Int32) + 1))) : ¬ fD1 (idx q0) = 0 := by
  rw [own_D1 hfD1, if_pos rfl]; decide
theorem own_D1z (hfD1 : fD1 = (upd (fun _ => 0) (idx q0) ((0 : Int32) + 1))) (hne : ¬ h2 = q0) : fD1 (sr2 q0 h2) = 0 := by
  rw [own_D1 hfD1, if_neg (own_sr2_ne hne)]
theorem own_s2 (hfD1 : fD1 = (upd (fun _ => 0) (idx q0) ((0 : Int32) + 1))) (hfH1 : fH1 = (if (fun _ => (0 : Int32)) (idx q0) = 0 then updJ (fun _ => 0) (idx q0) q0 else (fun _ => 0))) : slotEnd fD1 fH1 h2 (sk2 q0 h2) (idx h2) (sr2 q0 h2) := by
  have l := own_idx_lt q0; have l2 := own_idx_lt h2
  by_cases e : h2 = q0
  · subst e
    unfold sk2 sr2; rw [if_pos rfl, if_pos rfl]
    exact ⟨rfl, l, Or.inr (own_H1 hfH1)⟩
  · by_cases f : idx h2 = idx q0
    · have z := own_D1z (h2 := h2) hfD1 e
      unfold sr2 at z; rw [if_neg e, if_pos f] at z
      unfold sk2 sr2; rw [if_neg e, if_neg e, if_pos f, if_pos f, f]
      exact ⟨l, own_D1ne hfD1, by rw [own_H1 hfH1]; exact fun q => e q.symm, rfl, Nat.mod_lt _ (by decide), Or.inl z⟩
    · have z := own_D1z (h2 := h2) hfD1 e
      unfold sr2 at z; rw [if_neg e, if_neg f] at z
      unfold sk2 sr2; rw [if_neg e, if_neg e, if_neg f, if_neg f]
      exact ⟨rfl, l2, Or.inl z⟩
theorem own_D2 (hfD2 : fD2 = (upd fD1 (sr2 q0 h2) (wp1 + 1))) (hwp1 : wp1 = ((0 : Int32) + 1)) (i : Nat) : fD2 i = if i = sr2 q0 h2 then 2 else fD1 i := by
  rw [hfD2, hwp1]; unfold upd; split <;> rfl
theorem own_D2ne (hfD1 : fD1 = (upd (fun _ => 0) (idx q0) ((0 : Int32) + 1))) (hfD2 : fD2 = (upd fD1 (sr2 q0 h2) (wp1 + 1))) (hwp1 : wp1 = ((0 : Int32) + 1)) : ¬ fD2 (idx q0) = 0 := by
  rw [own_D2 hfD2 hwp1]; split
  · decide
  · exact own_D1ne hfD1
theorem own_H2 (hfD1 : fD1 = (upd (fun _ => 0) (idx q0) ((0 : Int32) + 1))) (hfH1 : fH1 = (if (fun _ => (0 : Int32)) (idx q0) = 0 then updJ (fun _ => 0) (idx q0) q0 else (fun _ => 0))) (hfH2 : fH2 = (if fD1 (sr2 q0 h2) = 0 then updJ fH1 (sr2 q0 h2) h2 else fH1)) : fH2 (idx q0) = q0 ∧ fH2 (sr2 q0 h2) = h2 := by
  by_cases e : h2 = q0
  · have s : sr2 q0 h2 = idx q0 := by unfold sr2; rw [if_pos e]
    rw [s, if_neg (own_D1ne hfD1)] at hfH2
    rw [s, hfH2, own_H1 hfH1]; exact ⟨rfl, e.symm⟩
  · rw [if_pos (own_D1z hfD1 e)] at hfH2
    rw [hfH2]; unfold updJ
    rw [if_neg (Ne.symm (own_sr2_ne e)), if_pos rfl]; exact ⟨own_H1 hfH1, rfl⟩
theorem own_s3 (hfD1 : fD1 = (upd (fun _ => 0) (idx q0) ((0 : Int32) + 1))) (hfH1 : fH1 = (if (fun _ => (0 : Int32)) (idx q0) = 0 then updJ (fun _ => 0) (idx q0) q0 else (fun _ => 0))) (hfH2 : fH2 = (if fD1 (sr2 q0 h2) = 0 then updJ fH1 (sr2 q0 h2) h2 else fH1)) : slotEnd fD2 fH2 q0 0 (idx q0) (idx q0) :=
  ⟨rfl, own_idx_lt q0, Or.inr (own_H2 hfD1 hfH1 hfH2).1⟩
theorem own_H3 (hfD1 : fD1 = (upd (fun _ => 0) (idx q0) ((0 : Int32) + 1))) (hfD2 : fD2 = (upd fD1 (sr2 q0 h2) (wp1 + 1))) (hwp1 : wp1 = ((0 : Int32) + 1)) (hfH3 : fH3 = (if fD2 (idx q0) = 0 then updJ fH2 (idx q0) q0 else fH2)) : fH3 = fH2 := by
  rw [hfH3, if_neg (own_D2ne hfD1 hfD2 hwp1)]
theorem own_D3 (hfD3 : fD3 = (upd fD2 (idx q0) (wp2 + 1))) (hwp1 : wp1 = ((0 : Int32) + 1)) (hwp2 : wp2 = (wp1 + 1)) (i : Nat) : fD3 i = if i = idx q0 then 3 else fD2 i := by
  rw [hfD3, hwp2, hwp1]; unfold upd; split <;> rfl
theorem own_s4 (hH : fH2 (idx q0) = q0) (h3 : fH3 = fH2) : slotEnd fD3 fH3 q0 0 (idx q0) (idx q0) := ⟨rfl, own_idx_lt q0, Or.inr (by rw [h3]; exact hH)⟩
theorem own_D3ne (hD : ∀ i, fD3 i = if i = idx q0 then 3 else fD2 i) : ¬ fD3 (idx q0) = 0 := by rw [hD, if_pos rfl]; decide
theorem own_s5 (hD : ∀ i, fD3 i = if i = idx q0 then 3 else fD2 i) (hH : fH2 (idx q0) = q0 ∧ fH2 (sr2 q0 h2) = h2) (h3 : fH3 = fH2) : slotEnd fD3 fH3 h2 (sk2 q0 h2) (idx h2) (sr2 q0 h2) := by
  have l := own_idx_lt q0; have l2 := own_idx_lt h2; have lr := own_sr2_lt q0 h2
  rw [h3]
  obtain ⟨ha, hb2⟩ := hH
  by_cases e : h2 = q0
  · subst e
    unfold sk2 sr2; rw [if_pos rfl, if_pos rfl]
    exact ⟨rfl, l, Or.inr ha⟩
  · by_cases f : idx h2 = idx q0
    · unfold sr2 at hb2; rw [if_neg e, if_pos f] at hb2
      unfold sk2 sr2; rw [if_neg e, if_neg e, if_pos f, if_pos f, f]
      exact ⟨l, own_D3ne hD, by rw [ha]; exact fun q => e q.symm, rfl, Nat.mod_lt _ (by decide), Or.inr hb2⟩
    · unfold sr2 at hb2; rw [if_neg e, if_neg f] at hb2
      unfold sk2 sr2; rw [if_neg e, if_neg e, if_neg f, if_neg f]
      exact ⟨rfl, l2, Or.inr hb2⟩
theorem own_N3 (hfD1 : fD1 = (upd (fun _ => 0) (idx q0) ((0 : Int32) + 1))) (hD2 : ∀ i, fD2 i = if i = sr2 q0 h2 then 2 else fD1 i) (hfN1 : fN1 = (upd (fun _ => 0) 0 ((fun _ => 0) (idx q0)))) (hfN2 : fN2 = (upd fN1 1 (fD1 (sr2 q0 h2)))) (hfN3 : fN3 = (upd fN2 2 (fD2 (idx q0)))) :
    fN3 0 = 0 ∧ fN3 1 = (if h2 = q0 then 1 else 0) ∧ fN3 2 = (if h2 = q0 then 2 else 1) := by
  refine ⟨by rw [hfN3, hfN2, hfN1]; rfl, ?_, ?_⟩
  · rw [hfN3, hfN2]; show fD1 (sr2 q0 h2) = _
    by_cases e : h2 = q0
    · rw [if_pos e, own_D1 hfD1, if_pos (by unfold sr2; rw [if_pos e])]
    · rw [if_neg e]; exact own_D1z hfD1 e
  · rw [hfN3]; show fD2 (idx q0) = _
    rw [hD2]
    by_cases e : h2 = q0
    · rw [if_pos e, if_pos (by unfold sr2; rw [if_pos e])]
    · rw [if_neg e, if_neg (Ne.symm (own_sr2_ne e)), own_D1 hfD1, if_pos rfl]
theorem own_ch1 (hD : ∀ i, fD3 i = if i = idx q0 then 3 else fD2 i) (hN : fN3 0 = 0 ∧ fN3 1 = (if h2 = q0 then 1 else 0) ∧ fN3 2 = (if h2 = q0 then 2 else 1)) : isChain fN3 (fD3 (idx q0)) (es1 q0 h2) := by
  obtain ⟨n0, n1, n2⟩ := hN
  unfold es1
  rw [hD, if_pos rfl]
  by_cases e : h2 = q0
  · rw [if_pos e] at n1 n2; rw [if_pos e]
    exact ⟨rfl, by decide, by rw [n2]; rfl, by decide, by rw [n1]; rfl, by decide, n0⟩
  · rw [if_neg e] at n1 n2; rw [if_neg e]
    exact ⟨rfl, by decide, by rw [n2]; rfl, by decide, n0⟩
theorem own_ch2 (hD2 : ∀ i, fD2 i = if i = sr2 q0 h2 then 2 else fD1 i) (hD : ∀ i, fD3 i = if i = idx q0 then 3 else fD2 i) (hN : fN3 0 = 0 ∧ fN3 1 = (if h2 = q0 then 1 else 0) ∧ fN3 2 = (if h2 = q0 then 2 else 1)) : isChain fN3 (fD3 (sr2 q0 h2)) (es2 q0 h2) := by
  by_cases e : h2 = q0
  · have s : sr2 q0 h2 = idx q0 := by unfold sr2; rw [if_pos e]
    have q := own_ch1 hD hN
    rw [s]; unfold es2; unfold es1 at q; rw [if_pos e] at q ⊢; exact q
  · obtain ⟨n0, n1, n2⟩ := hN
    rw [if_neg e] at n1 n2
    unfold es2; rw [if_neg e, hD, if_neg (own_sr2_ne e), hD2, if_pos rfl]
    exact ⟨rfl, by decide, n1⟩
end St
theorem own_wc {w j B : Int32} {c : Prop} [Decidable c] {b : Int} (h : 0 ≤ w.toInt ∧ w.toInt ≤ b) (hb : b ≤ 600) (hj : j = (if c then w + 1 else w)) : 0 ≤ j.toInt ∧ j.toInt ≤ b + 1 := by
  have e1 : (1 : Int32).toInt = 1 := by decide
  have k := c_iadd w 1; have r := rng32 (w + 1); rw [e1] at k
  rw [hj]; split <;> omega
theorem own_es1 (a b : Int64) : (es1 a b).length ≤ 15 := by unfold es1; split <;> decide
theorem own_es2 (a b : Int64) : (es2 a b).length ≤ 15 := by unfold es2; split <;> decide
theorem own_j1 {q1 q2 : Int64} {p6 p7 j : Int32} (h : j = (if q2 = q1 then (if p6 < p7 then (1 : Int32) else (0 : Int32)) else (0 : Int32))) : ¬ (j < 0 ∨ 3 ≤ j.toNatClampNeg) := by
  rw [h]; split
  · split <;> decide
  · decide
theorem own_j2 {q1 q2 q3 : Int64} {p5 p6 p7 j k : Int32} (h : j = (if q2 = q1 then (if p6 < p7 then (1 : Int32) else (0 : Int32)) else (0 : Int32))) (h2 : k = (if q3 = q1 then (if p5 < p7 then (j + (1 : Int32)) else j) else j)) : ¬ (k < 0 ∨ 3 ≤ k.toNatClampNeg) := by
  have c : j = 0 ∨ j = 1 := by
    rw [h]; split
    · split
      · exact Or.inr rfl
      · exact Or.inl rfl
    · exact Or.inl rfl
  rw [h2]
  rcases c with rfl | rfl
  · split
    · split <;> decide
    · decide
  · split
    · split <;> decide
    · decide
theorem own_g (i : Nat) {ng : Nat} {j : Int32} (h1 : (Nat.toInt32 ng) = j) (h2 : Int32.ofNat i < j) (hng : ng < 1000) (hi : i < 1000 := by decide) : ¬ (Int32.ofNat i < 0 ∨ ng ≤ (Int32.ofNat i).toNatClampNeg) := by
  have h3 : Int32.ofNat i < Int32.ofNat ng := by rw [show Int32.ofNat ng = j from h1]; exact h2
  rw [own_ofNat_lt (by omega) (by omega)] at h3
  exact own_ofNat_in h3 (by omega)
def sr3 (a b : Int64) : Nat := if b = a ^^^ (1024 : Int64) then (idx a + 1) % 1024 else if sr2 a b = (idx a + 1) % 1024 then ((idx a + 1) % 1024 + 1) % 1024 else (idx a + 1) % 1024
def sk3 (a b : Int64) : Nat := if b = a ^^^ (1024 : Int64) then 1 else if sr2 a b = (idx a + 1) % 1024 then 2 else 1
def es3 (a b : Int64) : List Nat := if b = a ^^^ (1024 : Int64) then [1] else []
theorem own_es3 (a b : Int64) : (es3 a b).length ≤ 15 := by unfold es3; split <;> decide
theorem own_l1 (f : Nat → Int32) (b : Int32) (x y : Int64) : (coll f b (es1 x y)).length < 1000 := by have := own_coll f b (es1 x y); have := own_es1 x y; omega
theorem own_l2 (f : Nat → Int32) (b : Int32) (x y : Int64) : (coll f b (es2 x y)).length < 1000 := by have := own_coll f b (es2 x y); have := own_es2 x y; omega
theorem own_l3 (f : Nat → Int32) (b : Int32) (x y : Int64) : (coll f b (es3 x y)).length < 1000 := by have := own_coll f b (es3 x y); have := own_es3 x y; omega
theorem own_xne (a : Int64) : ¬ a ^^^ (1024 : Int64) = a := by
  intro q
  have h := congrArg (fun z : Int64 => z.toBitVec.getLsbD 10) q
  simp only [Int64.toBitVec_xor, BitVec.getLsbD_xor] at h
  have e : (1024 : Int64).toBitVec.getLsbD 10 = true := by decide
  rw [e] at h
  cases hb10 : a.toBitVec.getLsbD 10 <;> simp [hb10] at h
theorem own_xidx (a : Int64) : idx (a ^^^ (1024 : Int64)) = idx a := by
  unfold idx
  congr 1
  apply Int32.toBitVec_inj.mp
  simp only [Int32.toBitVec_and, Int64.toBitVec_toInt32, Int64.toBitVec_xor]
  apply BitVec.eq_of_getLsbD_eq
  intro i hi
  have e : (1023 : Int32).toBitVec = 1023#32 := by decide
  have e2 : (1024 : Int64).toBitVec = 1024#64 := by decide
  rw [e, e2]
  simp only [BitVec.getLsbD_and, BitVec.getLsbD_signExtend, BitVec.getLsbD_setWidth, BitVec.getLsbD_xor]
  by_cases q : i < 10
  · have : (1024#64).getLsbD i = false := by
      have cs : ∀ i : Fin 10, (1024#64).getLsbD i.val = false := by decide
      exact cs ⟨i, q⟩
    have i64 : i < 64 := by omega
    rw [if_pos i64, if_pos i64, this, Bool.xor_false]
  · have : (1023#32).getLsbD i = false := by
      have cs : ∀ i : Fin 32, ¬ i.val < 10 → (1023#32).getLsbD i.val = false := by decide
      exact cs ⟨i, hi⟩ q
    simp [this]
section St3
variable {q0 h2 h3 : Int64} {fH2 fH3 : Nat → Int64} {fD1 fD2 fD3 fN3 : Nat → Int32}
theorem own_n1 (q0 : Int64) : (idx q0 + 1) % 1024 ≠ idx q0 ∧ (idx q0 + 1) % 1024 < 1024 ∧ ((idx q0 + 1) % 1024 + 1) % 1024 ≠ idx q0 ∧ ((idx q0 + 1) % 1024 + 1) % 1024 ≠ (idx q0 + 1) % 1024 ∧ ((idx q0 + 1) % 1024 + 1) % 1024 < 1024 := by
  have := own_idx_lt q0
  omega
theorem own_h3sr (e : h2 = q0 ^^^ (1024 : Int64)) : ¬ h2 = q0 ∧ sr2 q0 h2 = (idx q0 + 1) % 1024 := by
  have ne : ¬ h2 = q0 := by rw [e]; exact own_xne q0
  refine ⟨ne, ?_⟩
  unfold sr2; rw [if_neg ne, if_pos (by rw [e]; exact own_xidx q0)]
theorem own_z3 (hD1 : ∀ i, fD1 i = if i = idx q0 then 1 else 0) (hD2 : ∀ i, fD2 i = if i = sr2 q0 h2 then 2 else fD1 i) (hD3 : ∀ i, fD3 i = if i = idx q0 then 3 else fD2 i) (i : Nat) (a : i ≠ idx q0) (b : i ≠ sr2 q0 h2) : fD3 i = 0 := by
  rw [hD3, if_neg a, hD2, if_neg b, hD1, if_neg a]
theorem own_s6 (hh : h3 = (q0 ^^^ (1024 : Int64))) (hD1 : ∀ i, fD1 i = if i = idx q0 then 1 else 0) (hD2 : ∀ i, fD2 i = if i = sr2 q0 h2 then 2 else fD1 i) (hD3 : ∀ i, fD3 i = if i = idx q0 then 3 else fD2 i) (hH : fH2 (idx q0) = q0 ∧ fH2 (sr2 q0 h2) = h2) (h3e : fH3 = fH2) : slotEnd fD3 fH3 h3 (sk3 q0 h2) (idx h3) (sr3 q0 h2) := by
  have l := own_idx_lt q0
  obtain ⟨n1, n2, n3, n4, n5⟩ := own_n1 q0
  rw [h3e, hh, own_xidx]
  have occ : ¬ fD3 (idx q0) = 0 := own_D3ne hD3
  have x0 : ¬ fH2 (idx q0) = q0 ^^^ (1024 : Int64) := by rw [hH.1]; exact fun q => own_xne q0 q.symm
  by_cases e : h2 = q0 ^^^ (1024 : Int64)
  · obtain ⟨ne, sr⟩ := own_h3sr e
    unfold sk3 sr3; rw [if_pos e, if_pos e]
    have hx := hH.2
    rw [sr] at hx
    exact ⟨l, occ, x0, rfl, n2, Or.inr (by rw [hx]; exact e)⟩
  · unfold sk3 sr3; rw [if_neg e, if_neg e]
    by_cases f : sr2 q0 h2 = (idx q0 + 1) % 1024
    · rw [if_pos f, if_pos f]
      have hx := hH.2
      rw [f] at hx
      refine ⟨l, occ, x0, n2, ?_, ?_, rfl, n5, Or.inl (own_z3 hD1 hD2 hD3 _ n3 (by rw [f]; exact n4))⟩
      · rw [hD3, if_neg n1, hD2, if_pos f.symm]; decide
      · rw [hx]; exact e
    · rw [if_neg f, if_neg f]
      exact ⟨l, occ, x0, rfl, n2, Or.inl (own_z3 hD1 hD2 hD3 _ n1 (Ne.symm f))⟩
theorem own_ch3 (hD1 : ∀ i, fD1 i = if i = idx q0 then 1 else 0) (hD2 : ∀ i, fD2 i = if i = sr2 q0 h2 then 2 else fD1 i) (hD3 : ∀ i, fD3 i = if i = idx q0 then 3 else fD2 i) (hN : fN3 0 = 0 ∧ fN3 1 = (if h2 = q0 then 1 else 0) ∧ fN3 2 = (if h2 = q0 then 2 else 1)) : isChain fN3 (fD3 (sr3 q0 h2)) (es3 q0 h2) := by
  obtain ⟨n1, n2, n3, n4, n5⟩ := own_n1 q0
  by_cases e : h2 = q0 ^^^ (1024 : Int64)
  · obtain ⟨ne, sr⟩ := own_h3sr e
    unfold sr3 es3; rw [if_pos e, if_pos e, hD3, if_neg n1, hD2, if_pos sr.symm]
    exact ⟨rfl, by decide, by rw [hN.2.1, if_neg ne]; rfl⟩
  · unfold sr3 es3; rw [if_neg e, if_neg e]
    by_cases f : sr2 q0 h2 = (idx q0 + 1) % 1024
    · rw [if_pos f]; exact own_z3 hD1 hD2 hD3 _ n3 (by rw [f]; exact n4)
    · rw [if_neg f]; exact own_z3 hD1 hD2 hD3 _ n1 (Ne.symm f)
end St3
theorem chk_d0 : decode method_3_code 0 = .ok (.iconst 3, 1) := by decide +kernel
theorem chk_d1 : decode method_3_code 1 = .ok (.newarray .int, 2) := by decide +kernel
theorem chk_d3 : decode method_3_code 3 = .ok (.astore 11, 2) := by decide +kernel
theorem chk_d5 : decode method_3_code 5 = .ok (.iconst 0, 1) := by decide +kernel
theorem chk_d6 : decode method_3_code 6 = .ok (.istore 12, 2) := by decide +kernel
theorem chk_d8 : decode method_3_code 8 = .ok (.lload_n 3, 1) := by decide +kernel
theorem chk_d9 : decode method_3_code 9 = .ok (.lload_n 1, 1) := by decide +kernel
theorem chk_d10 : decode method_3_code 10 = .ok (.lcmp, 1) := by decide +kernel
theorem chk_d11 : decode method_3_code 11 = .ok (.ifCond .ne 20, 3) := by decide +kernel
theorem chk_d14 : decode method_3_code 14 = .ok (.iload 9, 2) := by decide +kernel
theorem chk_d16 : decode method_3_code 16 = .ok (.iload 10, 2) := by decide +kernel
theorem chk_d18 : decode method_3_code 18 = .ok (.if_icmp .ge 13, 3) := by decide +kernel
theorem chk_d21 : decode method_3_code 21 = .ok (.aload 11, 2) := by decide +kernel
theorem chk_d23 : decode method_3_code 23 = .ok (.iload 12, 2) := by decide +kernel
theorem chk_d25 : decode method_3_code 25 = .ok (.iload 9, 2) := by decide +kernel
theorem chk_d27 : decode method_3_code 27 = .ok (.iastore, 1) := by decide +kernel
theorem chk_d28 : decode method_3_code 28 = .ok (.iinc 12 1, 3) := by decide +kernel
theorem chk_d31 : decode method_3_code 31 = .ok (.lload 5, 2) := by decide +kernel
theorem chk_d33 : decode method_3_code 33 = .ok (.lload_n 1, 1) := by decide +kernel
theorem chk_d34 : decode method_3_code 34 = .ok (.lcmp, 1) := by decide +kernel
theorem chk_d35 : decode method_3_code 35 = .ok (.ifCond .ne 20, 3) := by decide +kernel
theorem chk_d38 : decode method_3_code 38 = .ok (.iload 8, 2) := by decide +kernel
theorem chk_d40 : decode method_3_code 40 = .ok (.iload 10, 2) := by decide +kernel
theorem chk_d42 : decode method_3_code 42 = .ok (.if_icmp .ge 13, 3) := by decide +kernel
theorem chk_d45 : decode method_3_code 45 = .ok (.aload 11, 2) := by decide +kernel
theorem chk_d47 : decode method_3_code 47 = .ok (.iload 12, 2) := by decide +kernel
theorem chk_d49 : decode method_3_code 49 = .ok (.iload 8, 2) := by decide +kernel
theorem chk_d51 : decode method_3_code 51 = .ok (.iastore, 1) := by decide +kernel
theorem chk_d52 : decode method_3_code 52 = .ok (.iinc 12 1, 3) := by decide +kernel
theorem chk_d55 : decode method_3_code 55 = .ok (.lload_n 3, 1) := by decide +kernel
theorem chk_d56 : decode method_3_code 56 = .ok (.lload_n 1, 1) := by decide +kernel
theorem chk_d57 : decode method_3_code 57 = .ok (.lcmp, 1) := by decide +kernel
theorem chk_d58 : decode method_3_code 58 = .ok (.ifCond .ne 20, 3) := by decide +kernel
theorem chk_d61 : decode method_3_code 61 = .ok (.iload 7, 2) := by decide +kernel
theorem chk_d63 : decode method_3_code 63 = .ok (.iload 10, 2) := by decide +kernel
theorem chk_d65 : decode method_3_code 65 = .ok (.if_icmp .ge 13, 3) := by decide +kernel
theorem chk_d68 : decode method_3_code 68 = .ok (.aload 11, 2) := by decide +kernel
theorem chk_d70 : decode method_3_code 70 = .ok (.iload 12, 2) := by decide +kernel
theorem chk_d72 : decode method_3_code 72 = .ok (.iload 7, 2) := by decide +kernel
theorem chk_d74 : decode method_3_code 74 = .ok (.iastore, 1) := by decide +kernel
theorem chk_d75 : decode method_3_code 75 = .ok (.iinc 12 1, 3) := by decide +kernel
theorem chk_d78 : decode method_3_code 78 = .ok (.aload_n 0, 1) := by decide +kernel
theorem chk_d79 : decode method_3_code 79 = .ok (.arraylength, 1) := by decide +kernel
theorem chk_d80 : decode method_3_code 80 = .ok (.iload 12, 2) := by decide +kernel
theorem chk_d82 : decode method_3_code 82 = .ok (.if_icmp .eq 5, 3) := by decide +kernel
theorem chk_d85 : decode method_3_code 85 = .ok (.iconst 0, 1) := by decide +kernel
theorem chk_d86 : decode method_3_code 86 = .ok (.ireturn, 1) := by decide +kernel
theorem chk_d87 : decode method_3_code 87 = .ok (.iload 12, 2) := by decide +kernel
theorem chk_d89 : decode method_3_code 89 = .ok (.ifCond .le 15, 3) := by decide +kernel
theorem chk_d92 : decode method_3_code 92 = .ok (.aload_n 0, 1) := by decide +kernel
theorem chk_d93 : decode method_3_code 93 = .ok (.iconst 0, 1) := by decide +kernel
theorem chk_d94 : decode method_3_code 94 = .ok (.iaload, 1) := by decide +kernel
theorem chk_d95 : decode method_3_code 95 = .ok (.aload 11, 2) := by decide +kernel
theorem chk_d97 : decode method_3_code 97 = .ok (.iconst 0, 1) := by decide +kernel
theorem chk_d98 : decode method_3_code 98 = .ok (.iaload, 1) := by decide +kernel
theorem chk_d99 : decode method_3_code 99 = .ok (.if_icmp .eq 5, 3) := by decide +kernel
theorem chk_d102 : decode method_3_code 102 = .ok (.iconst 0, 1) := by decide +kernel
theorem chk_d103 : decode method_3_code 103 = .ok (.ireturn, 1) := by decide +kernel
theorem chk_d104 : decode method_3_code 104 = .ok (.iload 12, 2) := by decide +kernel
theorem chk_d106 : decode method_3_code 106 = .ok (.iconst 1, 1) := by decide +kernel
theorem chk_d107 : decode method_3_code 107 = .ok (.if_icmp .le 15, 3) := by decide +kernel
theorem chk_d110 : decode method_3_code 110 = .ok (.aload_n 0, 1) := by decide +kernel
theorem chk_d111 : decode method_3_code 111 = .ok (.iconst 1, 1) := by decide +kernel
theorem chk_d112 : decode method_3_code 112 = .ok (.iaload, 1) := by decide +kernel
theorem chk_d113 : decode method_3_code 113 = .ok (.aload 11, 2) := by decide +kernel
theorem chk_d115 : decode method_3_code 115 = .ok (.iconst 1, 1) := by decide +kernel
theorem chk_d116 : decode method_3_code 116 = .ok (.iaload, 1) := by decide +kernel
theorem chk_d117 : decode method_3_code 117 = .ok (.if_icmp .eq 5, 3) := by decide +kernel
theorem chk_d120 : decode method_3_code 120 = .ok (.iconst 0, 1) := by decide +kernel
theorem chk_d121 : decode method_3_code 121 = .ok (.ireturn, 1) := by decide +kernel
theorem chk_d122 : decode method_3_code 122 = .ok (.iload 12, 2) := by decide +kernel
theorem chk_d124 : decode method_3_code 124 = .ok (.iconst 2, 1) := by decide +kernel
theorem chk_d125 : decode method_3_code 125 = .ok (.if_icmp .le 15, 3) := by decide +kernel
theorem chk_d128 : decode method_3_code 128 = .ok (.aload_n 0, 1) := by decide +kernel
theorem chk_d129 : decode method_3_code 129 = .ok (.iconst 2, 1) := by decide +kernel
theorem chk_d130 : decode method_3_code 130 = .ok (.iaload, 1) := by decide +kernel
theorem chk_d131 : decode method_3_code 131 = .ok (.aload 11, 2) := by decide +kernel
theorem chk_d133 : decode method_3_code 133 = .ok (.iconst 2, 1) := by decide +kernel
theorem chk_d134 : decode method_3_code 134 = .ok (.iaload, 1) := by decide +kernel
theorem chk_d135 : decode method_3_code 135 = .ok (.if_icmp .eq 5, 3) := by decide +kernel
theorem chk_d138 : decode method_3_code 138 = .ok (.iconst 0, 1) := by decide +kernel
theorem chk_d139 : decode method_3_code 139 = .ok (.ireturn, 1) := by decide +kernel
theorem chk_d140 : decode method_3_code 140 = .ok (.iconst 1, 1) := by decide +kernel
theorem chk_d141 : decode method_3_code 141 = .ok (.ireturn, 1) := by decide +kernel
theorem chk_pn : plainName "com/example/auditspur/auditspur/core/store/PostingsEventsPinLaw" = true := by first | (simp [plainName, overriddenIn]; done) | decide +kernel
theorem chk_ef (m : MethodId) (x0 : Addr) (x1 : Int64) (x2 : Int64) (x3 : Int64) (x4 : Int32) (x5 : Int32) (x6 : Int32) (x7 : Int32) : entryFrame m #[(.ref x0), (.long x1), (.long x2), (.long x3), (.int x4), (.int x5), (.int x6), (.int x7)] 13 = mkF m 0 #[.val (.ref x0), .val (.long x1), .second, .val (.long x2), .second, .val (.long x3), .second, .val (.int x4), .val (.int x5), .val (.int x6), .val (.int x7), .unset, .unset] [] := by first | (simp [entryFrame, mkF, argsToLocals, Value.category]; done) | rfl
def fChk (q1 : Int64) (q2 : Int64) (q3 : Int64) (p4 : Int32) (p5 : Int32) (p6 : Int32) (p7 : Int32) (fg : Nat → Int32) (ng : Nat) : Int32 :=
  let f1 : Nat → Int32 := (fun _ => (0 : Int32))
  let j31_12_1 : Int32 := (if q2 = q1 then (if p6 < p7 then (1 : Int32) else (0 : Int32)) else (0 : Int32))
  let jf31_1 : Nat → Int32 := (if q2 = q1 then (if p6 < p7 then (upd f1 ((0 : Int32)).toNatClampNeg p6) else f1) else f1)
  let j55_12_1 : Int32 := (if q3 = q1 then (if p5 < p7 then (j31_12_1 + (1 : Int32)) else j31_12_1) else j31_12_1)
  let jf55_1 : Nat → Int32 := (if q3 = q1 then (if p5 < p7 then (upd jf31_1 (j31_12_1).toNatClampNeg p5) else jf31_1) else jf31_1)
  let j78_12_1 : Int32 := (if q2 = q1 then (if p4 < p7 then (j55_12_1 + (1 : Int32)) else j55_12_1) else j55_12_1)
  let jf78_1 : Nat → Int32 := (if q2 = q1 then (if p4 < p7 then (upd jf55_1 (j55_12_1).toNatClampNeg p4) else jf55_1) else jf55_1)
  let jx82 : Int32 := (if (Nat.toInt32 ng) = j78_12_1 then (if (0 : Int32) < j78_12_1 then (if (fg ((0 : Int32)).toNatClampNeg) = (jf78_1 ((0 : Int32)).toNatClampNeg) then (if (1 : Int32) < j78_12_1 then (if (fg ((1 : Int32)).toNatClampNeg) = (jf78_1 ((1 : Int32)).toNatClampNeg) then (if (2 : Int32) < j78_12_1 then (if (fg ((2 : Int32)).toNatClampNeg) = (jf78_1 ((2 : Int32)).toNatClampNeg) then (1 : Int32) else (0 : Int32)) else (1 : Int32)) else (0 : Int32)) else (if (2 : Int32) < j78_12_1 then (if (fg ((2 : Int32)).toNatClampNeg) = (jf78_1 ((2 : Int32)).toNatClampNeg) then (1 : Int32) else (0 : Int32)) else (1 : Int32))) else (0 : Int32)) else (if (1 : Int32) < j78_12_1 then (if (fg ((1 : Int32)).toNatClampNeg) = (jf78_1 ((1 : Int32)).toNatClampNeg) then (if (2 : Int32) < j78_12_1 then (if (fg ((2 : Int32)).toNatClampNeg) = (jf78_1 ((2 : Int32)).toNatClampNeg) then (1 : Int32) else (0 : Int32)) else (1 : Int32)) else (0 : Int32)) else (if (2 : Int32) < j78_12_1 then (if (fg ((2 : Int32)).toNatClampNeg) = (jf78_1 ((2 : Int32)).toNatClampNeg) then (1 : Int32) else (0 : Int32)) else (1 : Int32)))) else (0 : Int32))
  (nar .boolean jx82)
set_option maxRecDepth 65536 in
set_option maxHeartbeats 40000000 in
theorem rm_chk (l : Launch) (Z : State) (a0 : Array Value) (hw : ∀ d ∈ tables_1, d.before a0 Z = true) (ws : List Jvm.Cond) (r0 : Addr) (q1 : Int64) (q2 : Int64) (q3 : Int64) (p4 : Int32) (p5 : Int32) (p6 : Int32) (p7 : Int32) (fg : Nat → Int32) (ng : Nat) (h0 : Heap) (n0 : Nat) (Z0 : n0 ≤ h0.size) (Vg : IA Z h0 r0 .int ng fg) (hng : ng < 1000) :
    MetFree l (⟨"com/example/auditspur/auditspur/core/store/PostingsEventsPinLaw", "check", "([IJJJIIII)Z"⟩ : MethodName) (head1 (Jvm.Cond.code (⟨"com/example/auditspur/auditspur/core/store/PostingsEventsPinLaw", "check", "([IJJJIIII)Z"⟩ : MethodName) method_3_code 13 (some .boolean) :: ws) ({ frames := 0, cells := 1, slots := 3, locals := 0 } : Room)) (fun a U => a = #[(.ref r0), (.long q1), (.long q2), (.long q3), (.int p4), (.int p5), (.int p6), (.int p7)] ∧ Z.Warmed39 U.vm ∧ U.heap = h0) (fun _ _ _ _ _ => True) (fun _ U o U' => ∃ v L, o = .returned v ∧ QK (.int (fChk q1 q2 q3 p4 p5 p6 p7 fg ng)) h0 n0 v U'.heap L ∧ FrameEnd U o U' L ({ frames := 0, cells := 1, slots := 3, locals := 0 } : Room).cells ({ frames := 0, cells := 1, slots := 3, locals := 0 } : Room).slots) := by
  refine MetFree.of_bodySF (plainFor_of_name chk_pn) hisR ?_
  intro p e s m args below meth c s₁ Bd hml0 hP hK
  obtain ⟨rfl, hZ, hh⟩ := hP
  have hx := Bd.exec
  have hby := Bd.bytes
  have hml : c.maxLocals = 13 := hml0
  have hown : s.vm.findClass "com/example/auditspur/auditspur/core/store/PostingsEventsPinLaw" = some m.cls := findClass_of_methodNamed Bd.named
  have hnm := (name_of_methodNamed Bd.named Bd.method).1
  have X0 : Stand p l e ({ frames := 0, cells := 1, slots := 3, locals := 0 } : Room) s m #[(.ref r0), (.long q1), (.long q2), (.long q3), (.int p4), (.int p5), (.int p6), (.int p7)] below meth c s₁ [] 0 0 := Stand.of_body Bd
  have e0 : s₁.heap = h0 := by rw [← hh, Bd.state]; rfl
  have N0 := Fr.nil n0
  obtain ⟨P0, hP0⟩ : ∃ P0 : State → Prop, P0 = fun t => Steps p.tables e below (s₁.setTop (entryFrame m #[(.ref r0), (.long q1), (.long q2), (.long q3), (.int p4), (.int p5), (.int p6), (.int p7)] 13)) t := ⟨_, rfl⟩
  have K0 : ∀ t, Steps p.tables e below (s₁.setTop (mkF m 0 #[.val (.ref r0), .val (.long q1), .second, .val (.long q2), .second, .val (.long q3), .second, .val (.int p4), .val (.int p5), .val (.int p6), .val (.int p7), .unset, .unset] [])) t → P0 t := by
    intro t k; rw [hP0]; exact castTop (chk_ef m r0 q1 q2 q3 p4 p5 p6 p7) k
  obtain ⟨T1, h1, k1, X1, e1, E1, A1, st1⟩ := newP X0 hx hZ (hw _ (List.mem_of_getElem? (i := 14) rfl)) e0 (g := (mkF m 1 #[.val (.ref r0), .val (.long q1), .second, .val (.long q2), .second, .val (.long q3), .second, .val (.int p4), .val (.int p5), .val (.int p6), .val (.int p7), .unset, .unset] [(.int (3 : Int32))])) rfl (hb hby chk_d1) rfl (by decide) (cap := 3) (by decide) (by decide) (by decide) (by decide)
  obtain ⟨b1, g1⟩ : ∃ z, z = h0.size := ⟨_, rfl⟩
  have g_b1 : n0 ≤ b1 := Nat.le_trans Z0 (Nat.le_of_eq g1.symm)
  have ne_r0_b1 : r0 ≠ b1 := Nat.ne_of_lt (Nat.lt_of_lt_of_le Vg.lt (Nat.le_of_eq g1.symm))
  rw [← g1] at A1 st1
  have sz_b1 : h0.size ≤ b1 := Nat.le_trans (Keep.refl h0 []).1 (Nat.le_of_eq g1.symm)
  have Z1 : n0 ≤ h1.size := Nat.le_trans Z0 E1.1
  have F2 : IA Z h1 r0 .int ng fg := Vg.ext E1
  obtain ⟨f1, hf1, V1⟩ : ∃ f1 : Nat → Int32, f1 = (fun _ => 0) ∧ IA Z h1 b1 .int 3 f1 := ⟨_, rfl, IA.new A1 rfl rfl (by decide)⟩
  have Kp1 : Keep h0 h1 [] := (Keep.refl h0 []).ext E1
  have K3 : ∀ t, Steps p.tables e below (T1.setTop (mkF m 11 #[.val (.ref r0), .val (.long q1), .second, .val (.long q2), .second, .val (.long q3), .second, .val (.int p4), .val (.int p5), .val (.int p6), .val (.int p7), .val (.ref b1), .val (.int (0 : Int32))] [(.int (lcmpW q2 q1))])) t → P0 t := by
    intro t kt
    refine K0 t ?_
    show Steps p.tables e below (s₁.setTop (mkF m 0 #[.val (.ref r0), .val (.long q1), .second, .val (.long q2), .second, .val (.long q3), .second, .val (.int p4), .val (.int p5), .val (.int p6), .val (.int p7), .unset, .unset] [])) t
    refine XS.iconst X0.here hx rfl (hb hby chk_d0) ?_
    show Steps p.tables e below (s₁.setTop (mkF m 1 #[.val (.ref r0), .val (.long q1), .second, .val (.long q2), .second, .val (.long q3), .second, .val (.int p4), .val (.int p5), .val (.int p6), .val (.int p7), .unset, .unset] [(.int (3 : Int32))])) t
    refine st1 _ ?_
    show Steps p.tables e below (T1.setTop (mkF m 3 #[.val (.ref r0), .val (.long q1), .second, .val (.long q2), .second, .val (.long q3), .second, .val (.int p4), .val (.int p5), .val (.int p6), .val (.int p7), .unset, .unset] [(.ref b1)])) t
    refine XS.astore X1.here hx rfl (hb hby chk_d3) rfl rfl (l' := #[.val (.ref r0), .val (.long q1), .second, .val (.long q2), .second, .val (.long q3), .second, .val (.int p4), .val (.int p5), .val (.int p6), .val (.int p7), .val (.ref b1), .unset]) rfl ?_
    show Steps p.tables e below (T1.setTop (mkF m 5 #[.val (.ref r0), .val (.long q1), .second, .val (.long q2), .second, .val (.long q3), .second, .val (.int p4), .val (.int p5), .val (.int p6), .val (.int p7), .val (.ref b1), .unset] [])) t
    refine XS.iconst X1.here hx rfl (hb hby chk_d5) ?_
    show Steps p.tables e below (T1.setTop (mkF m 6 #[.val (.ref r0), .val (.long q1), .second, .val (.long q2), .second, .val (.long q3), .second, .val (.int p4), .val (.int p5), .val (.int p6), .val (.int p7), .val (.ref b1), .unset] [(.int (0 : Int32))])) t
    refine XS.istore X1.here hx rfl (hb hby chk_d6) rfl (l' := #[.val (.ref r0), .val (.long q1), .second, .val (.long q2), .second, .val (.long q3), .second, .val (.int p4), .val (.int p5), .val (.int p6), .val (.int p7), .val (.ref b1), .val (.int (0 : Int32))]) rfl ?_
    show Steps p.tables e below (T1.setTop (mkF m 8 #[.val (.ref r0), .val (.long q1), .second, .val (.long q2), .second, .val (.long q3), .second, .val (.int p4), .val (.int p5), .val (.int p6), .val (.int p7), .val (.ref b1), .val (.int (0 : Int32))] [])) t
    refine XS.lloadN X1.here hx rfl (hb hby chk_d8) rfl ?_
    show Steps p.tables e below (T1.setTop (mkF m 9 #[.val (.ref r0), .val (.long q1), .second, .val (.long q2), .second, .val (.long q3), .second, .val (.int p4), .val (.int p5), .val (.int p6), .val (.int p7), .val (.ref b1), .val (.int (0 : Int32))] [(.long q2)])) t
    refine XS.lloadN X1.here hx rfl (hb hby chk_d9) rfl ?_
    show Steps p.tables e below (T1.setTop (mkF m 10 #[.val (.ref r0), .val (.long q1), .second, .val (.long q2), .second, .val (.long q3), .second, .val (.int p4), .val (.int p5), .val (.int p6), .val (.int p7), .val (.ref b1), .val (.int (0 : Int32))] [(.long q1), (.long q2)])) t
    refine XS.lcmp X1.here hx rfl (hb hby chk_d10) rfl ?_
    exact kt
  obtain ⟨j31_12_1, jf31_1, T22, lc23, h21, hj31_12_1, hjf31_1, X24, e25, N26, Z27, Kp28, F29, F30, K31⟩ : ∃ (j31_12_1 : Int32) (jf31_1 : Nat → Int32) (T22 : State) (lc23 : List Loc) (h21 : Heap), j31_12_1 = (if q2 = q1 then (if p6 < p7 then (1 : Int32) else (0 : Int32)) else (0 : Int32)) ∧ jf31_1 = (if q2 = q1 then (if p6 < p7 then (upd f1 ((0 : Int32)).toNatClampNeg p6) else f1) else f1) ∧ Stand p l e ({ frames := 0, cells := 1, slots := 3, locals := 0 } : Room) s m #[(.ref r0), (.long q1), (.long q2), (.long q3), (.int p4), (.int p5), (.int p6), (.int p7)] below meth c T22 lc23 1 3 ∧ T22.heap = h21 ∧ Fr n0 lc23 ∧ n0 ≤ h21.size ∧ Keep h0 h21 [] ∧ IA Z h21 r0 .int ng fg ∧ IA Z h21 b1 .int 3 jf31_1 ∧ ∀ t, Steps p.tables e below (T22.setTop (mkF m 31 #[.val (.ref r0), .val (.long q1), .second, .val (.long q2), .second, .val (.long q3), .second, .val (.int p4), .val (.int p5), .val (.int p6), .val (.int p7), .val (.ref b1), .val (.int j31_12_1)] [])) t → P0 t := by
    by_cases hc11 : q2 = q1
    · have K4 : ∀ t, Steps p.tables e below (T1.setTop (mkF m 18 #[.val (.ref r0), .val (.long q1), .second, .val (.long q2), .second, .val (.long q3), .second, .val (.int p4), .val (.int p5), .val (.int p6), .val (.int p7), .val (.ref b1), .val (.int (0 : Int32))] [(.int p7), (.int p6)])) t → P0 t := by
        intro t kt
        refine K3 t ?_
        show Steps p.tables e below (T1.setTop (mkF m 11 #[.val (.ref r0), .val (.long q1), .second, .val (.long q2), .second, .val (.long q3), .second, .val (.int p4), .val (.int p5), .val (.int p6), .val (.int p7), .val (.ref b1), .val (.int (0 : Int32))] [(.int (lcmpW q2 q1))])) t
        refine XS.ifNo X1.here hx rfl (hb hby chk_d11) rfl ((if0 _ _).trans (teq ((lw_eq q2 q1).mpr hc11)).2) ?_
        show Steps p.tables e below (T1.setTop (mkF m 14 #[.val (.ref r0), .val (.long q1), .second, .val (.long q2), .second, .val (.long q3), .second, .val (.int p4), .val (.int p5), .val (.int p6), .val (.int p7), .val (.ref b1), .val (.int (0 : Int32))] [])) t
        refine XS.iload X1.here hx rfl (hb hby chk_d14) rfl ?_
        show Steps p.tables e below (T1.setTop (mkF m 16 #[.val (.ref r0), .val (.long q1), .second, .val (.long q2), .second, .val (.long q3), .second, .val (.int p4), .val (.int p5), .val (.int p6), .val (.int p7), .val (.ref b1), .val (.int (0 : Int32))] [(.int p6)])) t
        refine XS.iload X1.here hx rfl (hb hby chk_d16) rfl ?_
        exact kt
      obtain ⟨j31_12, jf31, T10, lc11, h9, hj31_12, hjf31, X12, e13, N14, Z15, Kp16, F17, F18, K19⟩ : ∃ (j31_12 : Int32) (jf31 : Nat → Int32) (T10 : State) (lc11 : List Loc) (h9 : Heap), j31_12 = (if p6 < p7 then (1 : Int32) else (0 : Int32)) ∧ jf31 = (if p6 < p7 then (upd f1 ((0 : Int32)).toNatClampNeg p6) else f1) ∧ Stand p l e ({ frames := 0, cells := 1, slots := 3, locals := 0 } : Room) s m #[(.ref r0), (.long q1), (.long q2), (.long q3), (.int p4), (.int p5), (.int p6), (.int p7)] below meth c T10 lc11 1 3 ∧ T10.heap = h9 ∧ Fr n0 lc11 ∧ n0 ≤ h9.size ∧ Keep h0 h9 [] ∧ IA Z h9 r0 .int ng fg ∧ IA Z h9 b1 .int 3 jf31 ∧ ∀ t, Steps p.tables e below (T10.setTop (mkF m 31 #[.val (.ref r0), .val (.long q1), .second, .val (.long q2), .second, .val (.long q3), .second, .val (.int p4), .val (.int p5), .val (.int p6), .val (.int p7), .val (.ref b1), .val (.int j31_12)] [])) t → P0 t := by
        by_cases hc18 : p6 < p7
        · obtain ⟨T5, h5, X5, e5, ⟨sl5, vv5, W5⟩, V5, st5⟩ := stIA X1 hx hZ e1 V1 (j := (0 : Int32)) (x := p6) (by decide) (g := (mkF m 27 #[.val (.ref r0), .val (.long q1), .second, .val (.long q2), .second, .val (.long q3), .second, .val (.int p4), .val (.int p5), .val (.int p6), .val (.int p7), .val (.ref b1), .val (.int (0 : Int32))] [(.int p6), (.int (0 : Int32)), (.ref b1)])) rfl rfl (hb hby chk_d27)
          have Z5 : n0 ≤ h5.size := Nat.le_trans Z1 (Keep.of_wr W5).1
          have N5 := Fr.snoc X5 N0 g_b1
          have F6 : IA Z h5 r0 .int ng fg := F2.other W5 ne_r0_b1
          have Kp5 : Keep h0 h5 [] := Kp1.wr W5 (Or.inr sz_b1)
          obtain ⟨f27, hf27, V5'⟩ : ∃ f27 : Nat → Int32, f27 = (upd f1 ((0 : Int32)).toNatClampNeg p6) ∧ IA Z h5 b1 .int 3 f27 := ⟨_, rfl, V5⟩
          have K7 : ∀ t, Steps p.tables e below (T5.setTop (mkF m 31 #[.val (.ref r0), .val (.long q1), .second, .val (.long q2), .second, .val (.long q3), .second, .val (.int p4), .val (.int p5), .val (.int p6), .val (.int p7), .val (.ref b1), .val (.int (1 : Int32))] [])) t → P0 t := by
            intro t kt
            refine K4 t ?_
            show Steps p.tables e below (T1.setTop (mkF m 18 #[.val (.ref r0), .val (.long q1), .second, .val (.long q2), .second, .val (.long q3), .second, .val (.int p4), .val (.int p5), .val (.int p6), .val (.int p7), .val (.ref b1), .val (.int (0 : Int32))] [(.int p7), (.int p6)])) t
            refine XS.icmpNo X1.here hx rfl (hb hby chk_d18) rfl (tlt hc18).2.1 ?_
            show Steps p.tables e below (T1.setTop (mkF m 21 #[.val (.ref r0), .val (.long q1), .second, .val (.long q2), .second, .val (.long q3), .second, .val (.int p4), .val (.int p5), .val (.int p6), .val (.int p7), .val (.ref b1), .val (.int (0 : Int32))] [])) t
            refine XS.aload X1.here hx rfl (hb hby chk_d21) rfl rfl ?_
            show Steps p.tables e below (T1.setTop (mkF m 23 #[.val (.ref r0), .val (.long q1), .second, .val (.long q2), .second, .val (.long q3), .second, .val (.int p4), .val (.int p5), .val (.int p6), .val (.int p7), .val (.ref b1), .val (.int (0 : Int32))] [(.ref b1)])) t
            refine XS.iload X1.here hx rfl (hb hby chk_d23) rfl ?_
            show Steps p.tables e below (T1.setTop (mkF m 25 #[.val (.ref r0), .val (.long q1), .second, .val (.long q2), .second, .val (.long q3), .second, .val (.int p4), .val (.int p5), .val (.int p6), .val (.int p7), .val (.ref b1), .val (.int (0 : Int32))] [(.int (0 : Int32)), (.ref b1)])) t
            refine XS.iload X1.here hx rfl (hb hby chk_d25) rfl ?_
            show Steps p.tables e below (T1.setTop (mkF m 27 #[.val (.ref r0), .val (.long q1), .second, .val (.long q2), .second, .val (.long q3), .second, .val (.int p4), .val (.int p5), .val (.int p6), .val (.int p7), .val (.ref b1), .val (.int (0 : Int32))] [(.int p6), (.int (0 : Int32)), (.ref b1)])) t
            refine st5 _ ?_
            show Steps p.tables e below (T5.setTop (mkF m 28 #[.val (.ref r0), .val (.long q1), .second, .val (.long q2), .second, .val (.long q3), .second, .val (.int p4), .val (.int p5), .val (.int p6), .val (.int p7), .val (.ref b1), .val (.int (0 : Int32))] [])) t
            refine XS.iinc X5.here hx rfl (hb hby chk_d28) rfl (l' := #[.val (.ref r0), .val (.long q1), .second, .val (.long q2), .second, .val (.long q3), .second, .val (.int p4), .val (.int p5), .val (.int p6), .val (.int p7), .val (.ref b1), .val (.int (1 : Int32))]) rfl ?_
            exact kt
          subst hf27
          exact ⟨_, _, _, _, _, (if_pos hc18).symm, (if_pos hc18).symm, X5, e5, N5, Z5, Kp5, F6, V5', K7⟩
        · have K8 : ∀ t, Steps p.tables e below (T1.setTop (mkF m 31 #[.val (.ref r0), .val (.long q1), .second, .val (.long q2), .second, .val (.long q3), .second, .val (.int p4), .val (.int p5), .val (.int p6), .val (.int p7), .val (.ref b1), .val (.int (0 : Int32))] [])) t → P0 t := by
            intro t kt
            refine K4 t ?_
            show Steps p.tables e below (T1.setTop (mkF m 18 #[.val (.ref r0), .val (.long q1), .second, .val (.long q2), .second, .val (.long q3), .second, .val (.int p4), .val (.int p5), .val (.int p6), .val (.int p7), .val (.ref b1), .val (.int (0 : Int32))] [(.int p7), (.int p6)])) t
            refine XS.icmpYes X1.here hx rfl (pc0 := 18) (pc' := 31) rfl (hb hby chk_d18) rfl (flt hc18).2.1 (by decide) (by decide) ?_
            exact kt
          exact ⟨_, _, _, _, _, (if_neg hc18).symm, (if_neg hc18).symm, X1, e1, N0, Z1, Kp1, F2, V1, K8⟩
      subst hj31_12
      subst hjf31
      exact ⟨_, _, _, _, _, (if_pos hc11).symm, (if_pos hc11).symm, X12, e13, N14, Z15, Kp16, F17, F18, K19⟩
    · have K20 : ∀ t, Steps p.tables e below (T1.setTop (mkF m 31 #[.val (.ref r0), .val (.long q1), .second, .val (.long q2), .second, .val (.long q3), .second, .val (.int p4), .val (.int p5), .val (.int p6), .val (.int p7), .val (.ref b1), .val (.int (0 : Int32))] [])) t → P0 t := by
        intro t kt
        refine K3 t ?_
        show Steps p.tables e below (T1.setTop (mkF m 11 #[.val (.ref r0), .val (.long q1), .second, .val (.long q2), .second, .val (.long q3), .second, .val (.int p4), .val (.int p5), .val (.int p6), .val (.int p7), .val (.ref b1), .val (.int (0 : Int32))] [(.int (lcmpW q2 q1))])) t
        refine XS.ifYes X1.here hx rfl (pc0 := 11) (pc' := 31) rfl (hb hby chk_d11) rfl ((if0 _ _).trans (feq (fun q => hc11 ((lw_eq q2 q1).mp q))).2) (by decide) (by decide) ?_
        exact kt
      exact ⟨_, _, _, _, _, (if_neg hc11).symm, (if_neg hc11).symm, X1, e1, N0, Z1, Kp1, F2, V1, K20⟩
  have K32 : ∀ t, Steps p.tables e below (T22.setTop (mkF m 35 #[.val (.ref r0), .val (.long q1), .second, .val (.long q2), .second, .val (.long q3), .second, .val (.int p4), .val (.int p5), .val (.int p6), .val (.int p7), .val (.ref b1), .val (.int j31_12_1)] [(.int (lcmpW q3 q1))])) t → P0 t := by
    intro t kt
    refine K31 t ?_
    show Steps p.tables e below (T22.setTop (mkF m 31 #[.val (.ref r0), .val (.long q1), .second, .val (.long q2), .second, .val (.long q3), .second, .val (.int p4), .val (.int p5), .val (.int p6), .val (.int p7), .val (.ref b1), .val (.int j31_12_1)] [])) t
    refine XS.lload X24.here hx rfl (hb hby chk_d31) rfl ?_
    show Steps p.tables e below (T22.setTop (mkF m 33 #[.val (.ref r0), .val (.long q1), .second, .val (.long q2), .second, .val (.long q3), .second, .val (.int p4), .val (.int p5), .val (.int p6), .val (.int p7), .val (.ref b1), .val (.int j31_12_1)] [(.long q3)])) t
    refine XS.lloadN X24.here hx rfl (hb hby chk_d33) rfl ?_
    show Steps p.tables e below (T22.setTop (mkF m 34 #[.val (.ref r0), .val (.long q1), .second, .val (.long q2), .second, .val (.long q3), .second, .val (.int p4), .val (.int p5), .val (.int p6), .val (.int p7), .val (.ref b1), .val (.int j31_12_1)] [(.long q1), (.long q3)])) t
    refine XS.lcmp X24.here hx rfl (hb hby chk_d34) rfl ?_
    exact kt
  obtain ⟨j55_12_1, jf55_1, T52, lc53, h51, hj55_12_1, hjf55_1, X54, e55, N56, Z57, Kp58, F59, F60, K61⟩ : ∃ (j55_12_1 : Int32) (jf55_1 : Nat → Int32) (T52 : State) (lc53 : List Loc) (h51 : Heap), j55_12_1 = (if q3 = q1 then (if p5 < p7 then (j31_12_1 + (1 : Int32)) else j31_12_1) else j31_12_1) ∧ jf55_1 = (if q3 = q1 then (if p5 < p7 then (upd jf31_1 (j31_12_1).toNatClampNeg p5) else jf31_1) else jf31_1) ∧ Stand p l e ({ frames := 0, cells := 1, slots := 3, locals := 0 } : Room) s m #[(.ref r0), (.long q1), (.long q2), (.long q3), (.int p4), (.int p5), (.int p6), (.int p7)] below meth c T52 lc53 1 3 ∧ T52.heap = h51 ∧ Fr n0 lc53 ∧ n0 ≤ h51.size ∧ Keep h0 h51 [] ∧ IA Z h51 r0 .int ng fg ∧ IA Z h51 b1 .int 3 jf55_1 ∧ ∀ t, Steps p.tables e below (T52.setTop (mkF m 55 #[.val (.ref r0), .val (.long q1), .second, .val (.long q2), .second, .val (.long q3), .second, .val (.int p4), .val (.int p5), .val (.int p6), .val (.int p7), .val (.ref b1), .val (.int j55_12_1)] [])) t → P0 t := by
    by_cases hc35 : q3 = q1
    · have K33 : ∀ t, Steps p.tables e below (T22.setTop (mkF m 42 #[.val (.ref r0), .val (.long q1), .second, .val (.long q2), .second, .val (.long q3), .second, .val (.int p4), .val (.int p5), .val (.int p6), .val (.int p7), .val (.ref b1), .val (.int j31_12_1)] [(.int p7), (.int p5)])) t → P0 t := by
        intro t kt
        refine K32 t ?_
        show Steps p.tables e below (T22.setTop (mkF m 35 #[.val (.ref r0), .val (.long q1), .second, .val (.long q2), .second, .val (.long q3), .second, .val (.int p4), .val (.int p5), .val (.int p6), .val (.int p7), .val (.ref b1), .val (.int j31_12_1)] [(.int (lcmpW q3 q1))])) t
        refine XS.ifNo X24.here hx rfl (hb hby chk_d35) rfl ((if0 _ _).trans (teq ((lw_eq q3 q1).mpr hc35)).2) ?_
        show Steps p.tables e below (T22.setTop (mkF m 38 #[.val (.ref r0), .val (.long q1), .second, .val (.long q2), .second, .val (.long q3), .second, .val (.int p4), .val (.int p5), .val (.int p6), .val (.int p7), .val (.ref b1), .val (.int j31_12_1)] [])) t
        refine XS.iload X24.here hx rfl (hb hby chk_d38) rfl ?_
        show Steps p.tables e below (T22.setTop (mkF m 40 #[.val (.ref r0), .val (.long q1), .second, .val (.long q2), .second, .val (.long q3), .second, .val (.int p4), .val (.int p5), .val (.int p6), .val (.int p7), .val (.ref b1), .val (.int j31_12_1)] [(.int p5)])) t
        refine XS.iload X24.here hx rfl (hb hby chk_d40) rfl ?_
        exact kt
      obtain ⟨j55_12, jf55, T40, lc41, h39, hj55_12, hjf55, X42, e43, N44, Z45, Kp46, F47, F48, K49⟩ : ∃ (j55_12 : Int32) (jf55 : Nat → Int32) (T40 : State) (lc41 : List Loc) (h39 : Heap), j55_12 = (if p5 < p7 then (j31_12_1 + (1 : Int32)) else j31_12_1) ∧ jf55 = (if p5 < p7 then (upd jf31_1 (j31_12_1).toNatClampNeg p5) else jf31_1) ∧ Stand p l e ({ frames := 0, cells := 1, slots := 3, locals := 0 } : Room) s m #[(.ref r0), (.long q1), (.long q2), (.long q3), (.int p4), (.int p5), (.int p6), (.int p7)] below meth c T40 lc41 1 3 ∧ T40.heap = h39 ∧ Fr n0 lc41 ∧ n0 ≤ h39.size ∧ Keep h0 h39 [] ∧ IA Z h39 r0 .int ng fg ∧ IA Z h39 b1 .int 3 jf55 ∧ ∀ t, Steps p.tables e below (T40.setTop (mkF m 55 #[.val (.ref r0), .val (.long q1), .second, .val (.long q2), .second, .val (.long q3), .second, .val (.int p4), .val (.int p5), .val (.int p6), .val (.int p7), .val (.ref b1), .val (.int j55_12)] [])) t → P0 t := by
        by_cases hc42 : p5 < p7
        · obtain ⟨T34, h34, X34, e34, ⟨sl34, vv34, W34⟩, V34, st34⟩ := stIA X24 hx hZ e25 F30 (j := j31_12_1) (x := p5) (own_j1 hj31_12_1) (g := (mkF m 51 #[.val (.ref r0), .val (.long q1), .second, .val (.long q2), .second, .val (.long q3), .second, .val (.int p4), .val (.int p5), .val (.int p6), .val (.int p7), .val (.ref b1), .val (.int j31_12_1)] [(.int p5), (.int j31_12_1), (.ref b1)])) rfl rfl (hb hby chk_d51)
          have Z34 : n0 ≤ h34.size := Nat.le_trans Z27 (Keep.of_wr W34).1
          have N34 := Fr.snoc X34 N26 g_b1
          have F35 : IA Z h34 r0 .int ng fg := F29.other W34 ne_r0_b1
          have Kp34 : Keep h0 h34 [] := Kp28.wr W34 (Or.inr sz_b1)
          obtain ⟨f51, hf51, V34'⟩ : ∃ f51 : Nat → Int32, f51 = (upd jf31_1 (j31_12_1).toNatClampNeg p5) ∧ IA Z h34 b1 .int 3 f51 := ⟨_, rfl, V34⟩
          have K36 : ∀ t, Steps p.tables e below (T34.setTop (mkF m 55 #[.val (.ref r0), .val (.long q1), .second, .val (.long q2), .second, .val (.long q3), .second, .val (.int p4), .val (.int p5), .val (.int p6), .val (.int p7), .val (.ref b1), .val (.int (j31_12_1 + (1 : Int32)))] [])) t → P0 t := by
            intro t kt
            refine K33 t ?_
            show Steps p.tables e below (T22.setTop (mkF m 42 #[.val (.ref r0), .val (.long q1), .second, .val (.long q2), .second, .val (.long q3), .second, .val (.int p4), .val (.int p5), .val (.int p6), .val (.int p7), .val (.ref b1), .val (.int j31_12_1)] [(.int p7), (.int p5)])) t
            refine XS.icmpNo X24.here hx rfl (hb hby chk_d42) rfl (tlt hc42).2.1 ?_
            show Steps p.tables e below (T22.setTop (mkF m 45 #[.val (.ref r0), .val (.long q1), .second, .val (.long q2), .second, .val (.long q3), .second, .val (.int p4), .val (.int p5), .val (.int p6), .val (.int p7), .val (.ref b1), .val (.int j31_12_1)] [])) t
            refine XS.aload X24.here hx rfl (hb hby chk_d45) rfl rfl ?_
            show Steps p.tables e below (T22.setTop (mkF m 47 #[.val (.ref r0), .val (.long q1), .second, .val (.long q2), .second, .val (.long q3), .second, .val (.int p4), .val (.int p5), .val (.int p6), .val (.int p7), .val (.ref b1), .val (.int j31_12_1)] [(.ref b1)])) t
            refine XS.iload X24.here hx rfl (hb hby chk_d47) rfl ?_
            show Steps p.tables e below (T22.setTop (mkF m 49 #[.val (.ref r0), .val (.long q1), .second, .val (.long q2), .second, .val (.long q3), .second, .val (.int p4), .val (.int p5), .val (.int p6), .val (.int p7), .val (.ref b1), .val (.int j31_12_1)] [(.int j31_12_1), (.ref b1)])) t
            refine XS.iload X24.here hx rfl (hb hby chk_d49) rfl ?_
            show Steps p.tables e below (T22.setTop (mkF m 51 #[.val (.ref r0), .val (.long q1), .second, .val (.long q2), .second, .val (.long q3), .second, .val (.int p4), .val (.int p5), .val (.int p6), .val (.int p7), .val (.ref b1), .val (.int j31_12_1)] [(.int p5), (.int j31_12_1), (.ref b1)])) t
            refine st34 _ ?_
            show Steps p.tables e below (T34.setTop (mkF m 52 #[.val (.ref r0), .val (.long q1), .second, .val (.long q2), .second, .val (.long q3), .second, .val (.int p4), .val (.int p5), .val (.int p6), .val (.int p7), .val (.ref b1), .val (.int j31_12_1)] [])) t
            refine XS.iinc X34.here hx rfl (hb hby chk_d52) rfl (l' := #[.val (.ref r0), .val (.long q1), .second, .val (.long q2), .second, .val (.long q3), .second, .val (.int p4), .val (.int p5), .val (.int p6), .val (.int p7), .val (.ref b1), .val (.int (j31_12_1 + (1 : Int32)))]) rfl ?_
            exact kt
          obtain ⟨v52, hv52, K37⟩ : ∃ v52 : Int32, v52 = (j31_12_1 + (1 : Int32)) ∧ ∀ t, Steps p.tables e below (T34.setTop (mkF m 55 #[.val (.ref r0), .val (.long q1), .second, .val (.long q2), .second, .val (.long q3), .second, .val (.int p4), .val (.int p5), .val (.int p6), .val (.int p7), .val (.ref b1), .val (.int v52)] [])) t → P0 t := ⟨_, rfl, K36⟩
          subst hf51
          subst hv52
          exact ⟨_, _, _, _, _, (if_pos hc42).symm, (if_pos hc42).symm, X34, e34, N34, Z34, Kp34, F35, V34', K37⟩
        · have K38 : ∀ t, Steps p.tables e below (T22.setTop (mkF m 55 #[.val (.ref r0), .val (.long q1), .second, .val (.long q2), .second, .val (.long q3), .second, .val (.int p4), .val (.int p5), .val (.int p6), .val (.int p7), .val (.ref b1), .val (.int j31_12_1)] [])) t → P0 t := by
            intro t kt
            refine K33 t ?_
            show Steps p.tables e below (T22.setTop (mkF m 42 #[.val (.ref r0), .val (.long q1), .second, .val (.long q2), .second, .val (.long q3), .second, .val (.int p4), .val (.int p5), .val (.int p6), .val (.int p7), .val (.ref b1), .val (.int j31_12_1)] [(.int p7), (.int p5)])) t
            refine XS.icmpYes X24.here hx rfl (pc0 := 42) (pc' := 55) rfl (hb hby chk_d42) rfl (flt hc42).2.1 (by decide) (by decide) ?_
            exact kt
          exact ⟨_, _, _, _, _, (if_neg hc42).symm, (if_neg hc42).symm, X24, e25, N26, Z27, Kp28, F29, F30, K38⟩
      subst hj55_12
      subst hjf55
      exact ⟨_, _, _, _, _, (if_pos hc35).symm, (if_pos hc35).symm, X42, e43, N44, Z45, Kp46, F47, F48, K49⟩
    · have K50 : ∀ t, Steps p.tables e below (T22.setTop (mkF m 55 #[.val (.ref r0), .val (.long q1), .second, .val (.long q2), .second, .val (.long q3), .second, .val (.int p4), .val (.int p5), .val (.int p6), .val (.int p7), .val (.ref b1), .val (.int j31_12_1)] [])) t → P0 t := by
        intro t kt
        refine K32 t ?_
        show Steps p.tables e below (T22.setTop (mkF m 35 #[.val (.ref r0), .val (.long q1), .second, .val (.long q2), .second, .val (.long q3), .second, .val (.int p4), .val (.int p5), .val (.int p6), .val (.int p7), .val (.ref b1), .val (.int j31_12_1)] [(.int (lcmpW q3 q1))])) t
        refine XS.ifYes X24.here hx rfl (pc0 := 35) (pc' := 55) rfl (hb hby chk_d35) rfl ((if0 _ _).trans (feq (fun q => hc35 ((lw_eq q3 q1).mp q))).2) (by decide) (by decide) ?_
        exact kt
      exact ⟨_, _, _, _, _, (if_neg hc35).symm, (if_neg hc35).symm, X24, e25, N26, Z27, Kp28, F29, F30, K50⟩
  have K62 : ∀ t, Steps p.tables e below (T52.setTop (mkF m 58 #[.val (.ref r0), .val (.long q1), .second, .val (.long q2), .second, .val (.long q3), .second, .val (.int p4), .val (.int p5), .val (.int p6), .val (.int p7), .val (.ref b1), .val (.int j55_12_1)] [(.int (lcmpW q2 q1))])) t → P0 t := by
    intro t kt
    refine K61 t ?_
    show Steps p.tables e below (T52.setTop (mkF m 55 #[.val (.ref r0), .val (.long q1), .second, .val (.long q2), .second, .val (.long q3), .second, .val (.int p4), .val (.int p5), .val (.int p6), .val (.int p7), .val (.ref b1), .val (.int j55_12_1)] [])) t
    refine XS.lloadN X54.here hx rfl (hb hby chk_d55) rfl ?_
    show Steps p.tables e below (T52.setTop (mkF m 56 #[.val (.ref r0), .val (.long q1), .second, .val (.long q2), .second, .val (.long q3), .second, .val (.int p4), .val (.int p5), .val (.int p6), .val (.int p7), .val (.ref b1), .val (.int j55_12_1)] [(.long q2)])) t
    refine XS.lloadN X54.here hx rfl (hb hby chk_d56) rfl ?_
    show Steps p.tables e below (T52.setTop (mkF m 57 #[.val (.ref r0), .val (.long q1), .second, .val (.long q2), .second, .val (.long q3), .second, .val (.int p4), .val (.int p5), .val (.int p6), .val (.int p7), .val (.ref b1), .val (.int j55_12_1)] [(.long q1), (.long q2)])) t
    refine XS.lcmp X54.here hx rfl (hb hby chk_d57) rfl ?_
    exact kt
  obtain ⟨j78_12_1, jf78_1, T82, lc83, h81, hj78_12_1, hjf78_1, X84, e85, N86, Z87, Kp88, F89, F90, K91⟩ : ∃ (j78_12_1 : Int32) (jf78_1 : Nat → Int32) (T82 : State) (lc83 : List Loc) (h81 : Heap), j78_12_1 = (if q2 = q1 then (if p4 < p7 then (j55_12_1 + (1 : Int32)) else j55_12_1) else j55_12_1) ∧ jf78_1 = (if q2 = q1 then (if p4 < p7 then (upd jf55_1 (j55_12_1).toNatClampNeg p4) else jf55_1) else jf55_1) ∧ Stand p l e ({ frames := 0, cells := 1, slots := 3, locals := 0 } : Room) s m #[(.ref r0), (.long q1), (.long q2), (.long q3), (.int p4), (.int p5), (.int p6), (.int p7)] below meth c T82 lc83 1 3 ∧ T82.heap = h81 ∧ Fr n0 lc83 ∧ n0 ≤ h81.size ∧ Keep h0 h81 [] ∧ IA Z h81 r0 .int ng fg ∧ IA Z h81 b1 .int 3 jf78_1 ∧ ∀ t, Steps p.tables e below (T82.setTop (mkF m 78 #[.val (.ref r0), .val (.long q1), .second, .val (.long q2), .second, .val (.long q3), .second, .val (.int p4), .val (.int p5), .val (.int p6), .val (.int p7), .val (.ref b1), .val (.int j78_12_1)] [])) t → P0 t := by
    by_cases hc58 : q2 = q1
    · have K63 : ∀ t, Steps p.tables e below (T52.setTop (mkF m 65 #[.val (.ref r0), .val (.long q1), .second, .val (.long q2), .second, .val (.long q3), .second, .val (.int p4), .val (.int p5), .val (.int p6), .val (.int p7), .val (.ref b1), .val (.int j55_12_1)] [(.int p7), (.int p4)])) t → P0 t := by
        intro t kt
        refine K62 t ?_
        show Steps p.tables e below (T52.setTop (mkF m 58 #[.val (.ref r0), .val (.long q1), .second, .val (.long q2), .second, .val (.long q3), .second, .val (.int p4), .val (.int p5), .val (.int p6), .val (.int p7), .val (.ref b1), .val (.int j55_12_1)] [(.int (lcmpW q2 q1))])) t
        refine XS.ifNo X54.here hx rfl (hb hby chk_d58) rfl ((if0 _ _).trans (teq ((lw_eq q2 q1).mpr hc58)).2) ?_
        show Steps p.tables e below (T52.setTop (mkF m 61 #[.val (.ref r0), .val (.long q1), .second, .val (.long q2), .second, .val (.long q3), .second, .val (.int p4), .val (.int p5), .val (.int p6), .val (.int p7), .val (.ref b1), .val (.int j55_12_1)] [])) t
        refine XS.iload X54.here hx rfl (hb hby chk_d61) rfl ?_
        show Steps p.tables e below (T52.setTop (mkF m 63 #[.val (.ref r0), .val (.long q1), .second, .val (.long q2), .second, .val (.long q3), .second, .val (.int p4), .val (.int p5), .val (.int p6), .val (.int p7), .val (.ref b1), .val (.int j55_12_1)] [(.int p4)])) t
        refine XS.iload X54.here hx rfl (hb hby chk_d63) rfl ?_
        exact kt
      obtain ⟨j78_12, jf78, T70, lc71, h69, hj78_12, hjf78, X72, e73, N74, Z75, Kp76, F77, F78, K79⟩ : ∃ (j78_12 : Int32) (jf78 : Nat → Int32) (T70 : State) (lc71 : List Loc) (h69 : Heap), j78_12 = (if p4 < p7 then (j55_12_1 + (1 : Int32)) else j55_12_1) ∧ jf78 = (if p4 < p7 then (upd jf55_1 (j55_12_1).toNatClampNeg p4) else jf55_1) ∧ Stand p l e ({ frames := 0, cells := 1, slots := 3, locals := 0 } : Room) s m #[(.ref r0), (.long q1), (.long q2), (.long q3), (.int p4), (.int p5), (.int p6), (.int p7)] below meth c T70 lc71 1 3 ∧ T70.heap = h69 ∧ Fr n0 lc71 ∧ n0 ≤ h69.size ∧ Keep h0 h69 [] ∧ IA Z h69 r0 .int ng fg ∧ IA Z h69 b1 .int 3 jf78 ∧ ∀ t, Steps p.tables e below (T70.setTop (mkF m 78 #[.val (.ref r0), .val (.long q1), .second, .val (.long q2), .second, .val (.long q3), .second, .val (.int p4), .val (.int p5), .val (.int p6), .val (.int p7), .val (.ref b1), .val (.int j78_12)] [])) t → P0 t := by
        by_cases hc65 : p4 < p7
        · obtain ⟨T64, h64, X64, e64, ⟨sl64, vv64, W64⟩, V64, st64⟩ := stIA X54 hx hZ e55 F60 (j := j55_12_1) (x := p4) (own_j2 hj31_12_1 hj55_12_1) (g := (mkF m 74 #[.val (.ref r0), .val (.long q1), .second, .val (.long q2), .second, .val (.long q3), .second, .val (.int p4), .val (.int p5), .val (.int p6), .val (.int p7), .val (.ref b1), .val (.int j55_12_1)] [(.int p4), (.int j55_12_1), (.ref b1)])) rfl rfl (hb hby chk_d74)
          have Z64 : n0 ≤ h64.size := Nat.le_trans Z57 (Keep.of_wr W64).1
          have N64 := Fr.snoc X64 N56 g_b1
          have F65 : IA Z h64 r0 .int ng fg := F59.other W64 ne_r0_b1
          have Kp64 : Keep h0 h64 [] := Kp58.wr W64 (Or.inr sz_b1)
          obtain ⟨f74, hf74, V64'⟩ : ∃ f74 : Nat → Int32, f74 = (upd jf55_1 (j55_12_1).toNatClampNeg p4) ∧ IA Z h64 b1 .int 3 f74 := ⟨_, rfl, V64⟩
          have K66 : ∀ t, Steps p.tables e below (T64.setTop (mkF m 78 #[.val (.ref r0), .val (.long q1), .second, .val (.long q2), .second, .val (.long q3), .second, .val (.int p4), .val (.int p5), .val (.int p6), .val (.int p7), .val (.ref b1), .val (.int (j55_12_1 + (1 : Int32)))] [])) t → P0 t := by
            intro t kt
            refine K63 t ?_
            show Steps p.tables e below (T52.setTop (mkF m 65 #[.val (.ref r0), .val (.long q1), .second, .val (.long q2), .second, .val (.long q3), .second, .val (.int p4), .val (.int p5), .val (.int p6), .val (.int p7), .val (.ref b1), .val (.int j55_12_1)] [(.int p7), (.int p4)])) t
            refine XS.icmpNo X54.here hx rfl (hb hby chk_d65) rfl (tlt hc65).2.1 ?_
            show Steps p.tables e below (T52.setTop (mkF m 68 #[.val (.ref r0), .val (.long q1), .second, .val (.long q2), .second, .val (.long q3), .second, .val (.int p4), .val (.int p5), .val (.int p6), .val (.int p7), .val (.ref b1), .val (.int j55_12_1)] [])) t
            refine XS.aload X54.here hx rfl (hb hby chk_d68) rfl rfl ?_
            show Steps p.tables e below (T52.setTop (mkF m 70 #[.val (.ref r0), .val (.long q1), .second, .val (.long q2), .second, .val (.long q3), .second, .val (.int p4), .val (.int p5), .val (.int p6), .val (.int p7), .val (.ref b1), .val (.int j55_12_1)] [(.ref b1)])) t
            refine XS.iload X54.here hx rfl (hb hby chk_d70) rfl ?_
            show Steps p.tables e below (T52.setTop (mkF m 72 #[.val (.ref r0), .val (.long q1), .second, .val (.long q2), .second, .val (.long q3), .second, .val (.int p4), .val (.int p5), .val (.int p6), .val (.int p7), .val (.ref b1), .val (.int j55_12_1)] [(.int j55_12_1), (.ref b1)])) t
            refine XS.iload X54.here hx rfl (hb hby chk_d72) rfl ?_
            show Steps p.tables e below (T52.setTop (mkF m 74 #[.val (.ref r0), .val (.long q1), .second, .val (.long q2), .second, .val (.long q3), .second, .val (.int p4), .val (.int p5), .val (.int p6), .val (.int p7), .val (.ref b1), .val (.int j55_12_1)] [(.int p4), (.int j55_12_1), (.ref b1)])) t
            refine st64 _ ?_
            show Steps p.tables e below (T64.setTop (mkF m 75 #[.val (.ref r0), .val (.long q1), .second, .val (.long q2), .second, .val (.long q3), .second, .val (.int p4), .val (.int p5), .val (.int p6), .val (.int p7), .val (.ref b1), .val (.int j55_12_1)] [])) t
            refine XS.iinc X64.here hx rfl (hb hby chk_d75) rfl (l' := #[.val (.ref r0), .val (.long q1), .second, .val (.long q2), .second, .val (.long q3), .second, .val (.int p4), .val (.int p5), .val (.int p6), .val (.int p7), .val (.ref b1), .val (.int (j55_12_1 + (1 : Int32)))]) rfl ?_
            exact kt
          obtain ⟨v75, hv75, K67⟩ : ∃ v75 : Int32, v75 = (j55_12_1 + (1 : Int32)) ∧ ∀ t, Steps p.tables e below (T64.setTop (mkF m 78 #[.val (.ref r0), .val (.long q1), .second, .val (.long q2), .second, .val (.long q3), .second, .val (.int p4), .val (.int p5), .val (.int p6), .val (.int p7), .val (.ref b1), .val (.int v75)] [])) t → P0 t := ⟨_, rfl, K66⟩
          subst hf74
          subst hv75
          exact ⟨_, _, _, _, _, (if_pos hc65).symm, (if_pos hc65).symm, X64, e64, N64, Z64, Kp64, F65, V64', K67⟩
        · have K68 : ∀ t, Steps p.tables e below (T52.setTop (mkF m 78 #[.val (.ref r0), .val (.long q1), .second, .val (.long q2), .second, .val (.long q3), .second, .val (.int p4), .val (.int p5), .val (.int p6), .val (.int p7), .val (.ref b1), .val (.int j55_12_1)] [])) t → P0 t := by
            intro t kt
            refine K63 t ?_
            show Steps p.tables e below (T52.setTop (mkF m 65 #[.val (.ref r0), .val (.long q1), .second, .val (.long q2), .second, .val (.long q3), .second, .val (.int p4), .val (.int p5), .val (.int p6), .val (.int p7), .val (.ref b1), .val (.int j55_12_1)] [(.int p7), (.int p4)])) t
            refine XS.icmpYes X54.here hx rfl (pc0 := 65) (pc' := 78) rfl (hb hby chk_d65) rfl (flt hc65).2.1 (by decide) (by decide) ?_
            exact kt
          exact ⟨_, _, _, _, _, (if_neg hc65).symm, (if_neg hc65).symm, X54, e55, N56, Z57, Kp58, F59, F60, K68⟩
      subst hj78_12
      subst hjf78
      exact ⟨_, _, _, _, _, (if_pos hc58).symm, (if_pos hc58).symm, X72, e73, N74, Z75, Kp76, F77, F78, K79⟩
    · have K80 : ∀ t, Steps p.tables e below (T52.setTop (mkF m 78 #[.val (.ref r0), .val (.long q1), .second, .val (.long q2), .second, .val (.long q3), .second, .val (.int p4), .val (.int p5), .val (.int p6), .val (.int p7), .val (.ref b1), .val (.int j55_12_1)] [])) t → P0 t := by
        intro t kt
        refine K62 t ?_
        show Steps p.tables e below (T52.setTop (mkF m 58 #[.val (.ref r0), .val (.long q1), .second, .val (.long q2), .second, .val (.long q3), .second, .val (.int p4), .val (.int p5), .val (.int p6), .val (.int p7), .val (.ref b1), .val (.int j55_12_1)] [(.int (lcmpW q2 q1))])) t
        refine XS.ifYes X54.here hx rfl (pc0 := 58) (pc' := 78) rfl (hb hby chk_d58) rfl ((if0 _ _).trans (feq (fun q => hc58 ((lw_eq q2 q1).mp q))).2) (by decide) (by decide) ?_
        exact kt
      exact ⟨_, _, _, _, _, (if_neg hc58).symm, (if_neg hc58).symm, X54, e55, N56, Z57, Kp58, F59, F60, K80⟩
  have K92 : ∀ t, Steps p.tables e below (T82.setTop (mkF m 82 #[.val (.ref r0), .val (.long q1), .second, .val (.long q2), .second, .val (.long q3), .second, .val (.int p4), .val (.int p5), .val (.int p6), .val (.int p7), .val (.ref b1), .val (.int j78_12_1)] [(.int j78_12_1), (.int (Nat.toInt32 ng))])) t → P0 t := by
    intro t kt
    refine K91 t ?_
    show Steps p.tables e below (T82.setTop (mkF m 78 #[.val (.ref r0), .val (.long q1), .second, .val (.long q2), .second, .val (.long q3), .second, .val (.int p4), .val (.int p5), .val (.int p6), .val (.int p7), .val (.ref b1), .val (.int j78_12_1)] [])) t
    refine XS.aloadN X84.here hx rfl (hb hby chk_d78) rfl rfl ?_
    show Steps p.tables e below (T82.setTop (mkF m 79 #[.val (.ref r0), .val (.long q1), .second, .val (.long q2), .second, .val (.long q3), .second, .val (.int p4), .val (.int p5), .val (.int p6), .val (.int p7), .val (.ref b1), .val (.int j78_12_1)] [(.ref r0)])) t
    refine lnIA X84 hx hZ e85 F89 (z := (Nat.toInt32 ng)) rfl (g := (mkF m 79 #[.val (.ref r0), .val (.long q1), .second, .val (.long q2), .second, .val (.long q3), .second, .val (.int p4), .val (.int p5), .val (.int p6), .val (.int p7), .val (.ref b1), .val (.int j78_12_1)] [(.ref r0)])) rfl rfl (hb hby chk_d79) _ ?_
    show Steps p.tables e below (T82.setTop (mkF m 80 #[.val (.ref r0), .val (.long q1), .second, .val (.long q2), .second, .val (.long q3), .second, .val (.int p4), .val (.int p5), .val (.int p6), .val (.int p7), .val (.ref b1), .val (.int j78_12_1)] [(.int (Nat.toInt32 ng))])) t
    refine XS.iload X84.here hx rfl (hb hby chk_d80) rfl ?_
    exact kt
  obtain ⟨jx82, pcx82, Lx82, Sx82, hjx82, hdx82, K137⟩ : ∃ (jx82 : Int32) (pcx82 : Nat) (Lx82 : Array Slot) (Sx82 : List Value), jx82 = (if (Nat.toInt32 ng) = j78_12_1 then (if (0 : Int32) < j78_12_1 then (if (fg ((0 : Int32)).toNatClampNeg) = (jf78_1 ((0 : Int32)).toNatClampNeg) then (if (1 : Int32) < j78_12_1 then (if (fg ((1 : Int32)).toNatClampNeg) = (jf78_1 ((1 : Int32)).toNatClampNeg) then (if (2 : Int32) < j78_12_1 then (if (fg ((2 : Int32)).toNatClampNeg) = (jf78_1 ((2 : Int32)).toNatClampNeg) then (1 : Int32) else (0 : Int32)) else (1 : Int32)) else (0 : Int32)) else (if (2 : Int32) < j78_12_1 then (if (fg ((2 : Int32)).toNatClampNeg) = (jf78_1 ((2 : Int32)).toNatClampNeg) then (1 : Int32) else (0 : Int32)) else (1 : Int32))) else (0 : Int32)) else (if (1 : Int32) < j78_12_1 then (if (fg ((1 : Int32)).toNatClampNeg) = (jf78_1 ((1 : Int32)).toNatClampNeg) then (if (2 : Int32) < j78_12_1 then (if (fg ((2 : Int32)).toNatClampNeg) = (jf78_1 ((2 : Int32)).toNatClampNeg) then (1 : Int32) else (0 : Int32)) else (1 : Int32)) else (0 : Int32)) else (if (2 : Int32) < j78_12_1 then (if (fg ((2 : Int32)).toNatClampNeg) = (jf78_1 ((2 : Int32)).toNatClampNeg) then (1 : Int32) else (0 : Int32)) else (1 : Int32)))) else (0 : Int32)) ∧ decode c.code pcx82 = .ok (.ireturn, 1) ∧ ∀ t, Steps p.tables e below (T82.setTop (mkF m pcx82 Lx82 ((.int jx82) :: Sx82))) t → P0 t := by
    by_cases hc82 : (Nat.toInt32 ng) = j78_12_1
    · have K93 : ∀ t, Steps p.tables e below (T82.setTop (mkF m 89 #[.val (.ref r0), .val (.long q1), .second, .val (.long q2), .second, .val (.long q3), .second, .val (.int p4), .val (.int p5), .val (.int p6), .val (.int p7), .val (.ref b1), .val (.int j78_12_1)] [(.int j78_12_1)])) t → P0 t := by
        intro t kt
        refine K92 t ?_
        show Steps p.tables e below (T82.setTop (mkF m 82 #[.val (.ref r0), .val (.long q1), .second, .val (.long q2), .second, .val (.long q3), .second, .val (.int p4), .val (.int p5), .val (.int p6), .val (.int p7), .val (.ref b1), .val (.int j78_12_1)] [(.int j78_12_1), (.int (Nat.toInt32 ng))])) t
        refine XS.icmpYes X84.here hx rfl (pc0 := 82) (pc' := 87) rfl (hb hby chk_d82) rfl (teq hc82).1 (by decide) (by decide) ?_
        show Steps p.tables e below (T82.setTop (mkF m 87 #[.val (.ref r0), .val (.long q1), .second, .val (.long q2), .second, .val (.long q3), .second, .val (.int p4), .val (.int p5), .val (.int p6), .val (.int p7), .val (.ref b1), .val (.int j78_12_1)] [])) t
        refine XS.iload X84.here hx rfl (hb hby chk_d87) rfl ?_
        exact kt
      obtain ⟨jx89, pcx89, Lx89, Sx89, hjx89, hdx89, K135⟩ : ∃ (jx89 : Int32) (pcx89 : Nat) (Lx89 : Array Slot) (Sx89 : List Value), jx89 = (if (0 : Int32) < j78_12_1 then (if (fg ((0 : Int32)).toNatClampNeg) = (jf78_1 ((0 : Int32)).toNatClampNeg) then (if (1 : Int32) < j78_12_1 then (if (fg ((1 : Int32)).toNatClampNeg) = (jf78_1 ((1 : Int32)).toNatClampNeg) then (if (2 : Int32) < j78_12_1 then (if (fg ((2 : Int32)).toNatClampNeg) = (jf78_1 ((2 : Int32)).toNatClampNeg) then (1 : Int32) else (0 : Int32)) else (1 : Int32)) else (0 : Int32)) else (if (2 : Int32) < j78_12_1 then (if (fg ((2 : Int32)).toNatClampNeg) = (jf78_1 ((2 : Int32)).toNatClampNeg) then (1 : Int32) else (0 : Int32)) else (1 : Int32))) else (0 : Int32)) else (if (1 : Int32) < j78_12_1 then (if (fg ((1 : Int32)).toNatClampNeg) = (jf78_1 ((1 : Int32)).toNatClampNeg) then (if (2 : Int32) < j78_12_1 then (if (fg ((2 : Int32)).toNatClampNeg) = (jf78_1 ((2 : Int32)).toNatClampNeg) then (1 : Int32) else (0 : Int32)) else (1 : Int32)) else (0 : Int32)) else (if (2 : Int32) < j78_12_1 then (if (fg ((2 : Int32)).toNatClampNeg) = (jf78_1 ((2 : Int32)).toNatClampNeg) then (1 : Int32) else (0 : Int32)) else (1 : Int32)))) ∧ decode c.code pcx89 = .ok (.ireturn, 1) ∧ ∀ t, Steps p.tables e below (T82.setTop (mkF m pcx89 Lx89 ((.int jx89) :: Sx89))) t → P0 t := by
        by_cases hc89 : (0 : Int32) < j78_12_1
        · have K94 : ∀ t, Steps p.tables e below (T82.setTop (mkF m 99 #[.val (.ref r0), .val (.long q1), .second, .val (.long q2), .second, .val (.long q3), .second, .val (.int p4), .val (.int p5), .val (.int p6), .val (.int p7), .val (.ref b1), .val (.int j78_12_1)] [(.int (jf78_1 ((0 : Int32)).toNatClampNeg)), (.int (fg ((0 : Int32)).toNatClampNeg))])) t → P0 t := by
            intro t kt
            refine K93 t ?_
            show Steps p.tables e below (T82.setTop (mkF m 89 #[.val (.ref r0), .val (.long q1), .second, .val (.long q2), .second, .val (.long q3), .second, .val (.int p4), .val (.int p5), .val (.int p6), .val (.int p7), .val (.ref b1), .val (.int j78_12_1)] [(.int j78_12_1)])) t
            refine XS.ifNo X84.here hx rfl (hb hby chk_d89) rfl ((if0 _ _).trans (tlt hc89).2.2.2) ?_
            show Steps p.tables e below (T82.setTop (mkF m 92 #[.val (.ref r0), .val (.long q1), .second, .val (.long q2), .second, .val (.long q3), .second, .val (.int p4), .val (.int p5), .val (.int p6), .val (.int p7), .val (.ref b1), .val (.int j78_12_1)] [])) t
            refine XS.aloadN X84.here hx rfl (hb hby chk_d92) rfl rfl ?_
            show Steps p.tables e below (T82.setTop (mkF m 93 #[.val (.ref r0), .val (.long q1), .second, .val (.long q2), .second, .val (.long q3), .second, .val (.int p4), .val (.int p5), .val (.int p6), .val (.int p7), .val (.ref b1), .val (.int j78_12_1)] [(.ref r0)])) t
            refine XS.iconst X84.here hx rfl (hb hby chk_d93) ?_
            show Steps p.tables e below (T82.setTop (mkF m 94 #[.val (.ref r0), .val (.long q1), .second, .val (.long q2), .second, .val (.long q3), .second, .val (.int p4), .val (.int p5), .val (.int p6), .val (.int p7), .val (.ref b1), .val (.int j78_12_1)] [(.int (0 : Int32)), (.ref r0)])) t
            refine ldIA X84 hx hZ e85 F89 (j := (0 : Int32)) (by first | exact own_g 0 hc82 hc89 hng) (g := (mkF m 94 #[.val (.ref r0), .val (.long q1), .second, .val (.long q2), .second, .val (.long q3), .second, .val (.int p4), .val (.int p5), .val (.int p6), .val (.int p7), .val (.ref b1), .val (.int j78_12_1)] [(.int (0 : Int32)), (.ref r0)])) rfl rfl (hb hby chk_d94) _ ?_
            show Steps p.tables e below (T82.setTop (mkF m 95 #[.val (.ref r0), .val (.long q1), .second, .val (.long q2), .second, .val (.long q3), .second, .val (.int p4), .val (.int p5), .val (.int p6), .val (.int p7), .val (.ref b1), .val (.int j78_12_1)] [(.int (fg ((0 : Int32)).toNatClampNeg))])) t
            refine XS.aload X84.here hx rfl (hb hby chk_d95) rfl rfl ?_
            show Steps p.tables e below (T82.setTop (mkF m 97 #[.val (.ref r0), .val (.long q1), .second, .val (.long q2), .second, .val (.long q3), .second, .val (.int p4), .val (.int p5), .val (.int p6), .val (.int p7), .val (.ref b1), .val (.int j78_12_1)] [(.ref b1), (.int (fg ((0 : Int32)).toNatClampNeg))])) t
            refine XS.iconst X84.here hx rfl (hb hby chk_d97) ?_
            show Steps p.tables e below (T82.setTop (mkF m 98 #[.val (.ref r0), .val (.long q1), .second, .val (.long q2), .second, .val (.long q3), .second, .val (.int p4), .val (.int p5), .val (.int p6), .val (.int p7), .val (.ref b1), .val (.int j78_12_1)] [(.int (0 : Int32)), (.ref b1), (.int (fg ((0 : Int32)).toNatClampNeg))])) t
            refine ldIA X84 hx hZ e85 F90 (j := (0 : Int32)) (by decide) (g := (mkF m 98 #[.val (.ref r0), .val (.long q1), .second, .val (.long q2), .second, .val (.long q3), .second, .val (.int p4), .val (.int p5), .val (.int p6), .val (.int p7), .val (.ref b1), .val (.int j78_12_1)] [(.int (0 : Int32)), (.ref b1), (.int (fg ((0 : Int32)).toNatClampNeg))])) rfl rfl (hb hby chk_d98) _ ?_
            exact kt
          obtain ⟨jx99, pcx99, Lx99, Sx99, hjx99, hdx99, K115⟩ : ∃ (jx99 : Int32) (pcx99 : Nat) (Lx99 : Array Slot) (Sx99 : List Value), jx99 = (if (fg ((0 : Int32)).toNatClampNeg) = (jf78_1 ((0 : Int32)).toNatClampNeg) then (if (1 : Int32) < j78_12_1 then (if (fg ((1 : Int32)).toNatClampNeg) = (jf78_1 ((1 : Int32)).toNatClampNeg) then (if (2 : Int32) < j78_12_1 then (if (fg ((2 : Int32)).toNatClampNeg) = (jf78_1 ((2 : Int32)).toNatClampNeg) then (1 : Int32) else (0 : Int32)) else (1 : Int32)) else (0 : Int32)) else (if (2 : Int32) < j78_12_1 then (if (fg ((2 : Int32)).toNatClampNeg) = (jf78_1 ((2 : Int32)).toNatClampNeg) then (1 : Int32) else (0 : Int32)) else (1 : Int32))) else (0 : Int32)) ∧ decode c.code pcx99 = .ok (.ireturn, 1) ∧ ∀ t, Steps p.tables e below (T82.setTop (mkF m pcx99 Lx99 ((.int jx99) :: Sx99))) t → P0 t := by
            by_cases hc99 : (fg ((0 : Int32)).toNatClampNeg) = (jf78_1 ((0 : Int32)).toNatClampNeg)
            · have K95 : ∀ t, Steps p.tables e below (T82.setTop (mkF m 107 #[.val (.ref r0), .val (.long q1), .second, .val (.long q2), .second, .val (.long q3), .second, .val (.int p4), .val (.int p5), .val (.int p6), .val (.int p7), .val (.ref b1), .val (.int j78_12_1)] [(.int (1 : Int32)), (.int j78_12_1)])) t → P0 t := by
                intro t kt
                refine K94 t ?_
                show Steps p.tables e below (T82.setTop (mkF m 99 #[.val (.ref r0), .val (.long q1), .second, .val (.long q2), .second, .val (.long q3), .second, .val (.int p4), .val (.int p5), .val (.int p6), .val (.int p7), .val (.ref b1), .val (.int j78_12_1)] [(.int (jf78_1 ((0 : Int32)).toNatClampNeg)), (.int (fg ((0 : Int32)).toNatClampNeg))])) t
                refine XS.icmpYes X84.here hx rfl (pc0 := 99) (pc' := 104) rfl (hb hby chk_d99) rfl (teq hc99).1 (by decide) (by decide) ?_
                show Steps p.tables e below (T82.setTop (mkF m 104 #[.val (.ref r0), .val (.long q1), .second, .val (.long q2), .second, .val (.long q3), .second, .val (.int p4), .val (.int p5), .val (.int p6), .val (.int p7), .val (.ref b1), .val (.int j78_12_1)] [])) t
                refine XS.iload X84.here hx rfl (hb hby chk_d104) rfl ?_
                show Steps p.tables e below (T82.setTop (mkF m 106 #[.val (.ref r0), .val (.long q1), .second, .val (.long q2), .second, .val (.long q3), .second, .val (.int p4), .val (.int p5), .val (.int p6), .val (.int p7), .val (.ref b1), .val (.int j78_12_1)] [(.int j78_12_1)])) t
                refine XS.iconst X84.here hx rfl (hb hby chk_d106) ?_
                exact kt
              obtain ⟨jx107, pcx107, Lx107, Sx107, hjx107, hdx107, K113⟩ : ∃ (jx107 : Int32) (pcx107 : Nat) (Lx107 : Array Slot) (Sx107 : List Value), jx107 = (if (1 : Int32) < j78_12_1 then (if (fg ((1 : Int32)).toNatClampNeg) = (jf78_1 ((1 : Int32)).toNatClampNeg) then (if (2 : Int32) < j78_12_1 then (if (fg ((2 : Int32)).toNatClampNeg) = (jf78_1 ((2 : Int32)).toNatClampNeg) then (1 : Int32) else (0 : Int32)) else (1 : Int32)) else (0 : Int32)) else (if (2 : Int32) < j78_12_1 then (if (fg ((2 : Int32)).toNatClampNeg) = (jf78_1 ((2 : Int32)).toNatClampNeg) then (1 : Int32) else (0 : Int32)) else (1 : Int32))) ∧ decode c.code pcx107 = .ok (.ireturn, 1) ∧ ∀ t, Steps p.tables e below (T82.setTop (mkF m pcx107 Lx107 ((.int jx107) :: Sx107))) t → P0 t := by
                by_cases hc107 : (1 : Int32) < j78_12_1
                · have K96 : ∀ t, Steps p.tables e below (T82.setTop (mkF m 117 #[.val (.ref r0), .val (.long q1), .second, .val (.long q2), .second, .val (.long q3), .second, .val (.int p4), .val (.int p5), .val (.int p6), .val (.int p7), .val (.ref b1), .val (.int j78_12_1)] [(.int (jf78_1 ((1 : Int32)).toNatClampNeg)), (.int (fg ((1 : Int32)).toNatClampNeg))])) t → P0 t := by
                    intro t kt
                    refine K95 t ?_
                    show Steps p.tables e below (T82.setTop (mkF m 107 #[.val (.ref r0), .val (.long q1), .second, .val (.long q2), .second, .val (.long q3), .second, .val (.int p4), .val (.int p5), .val (.int p6), .val (.int p7), .val (.ref b1), .val (.int j78_12_1)] [(.int (1 : Int32)), (.int j78_12_1)])) t
                    refine XS.icmpNo X84.here hx rfl (hb hby chk_d107) rfl (tlt hc107).2.2.2 ?_
                    show Steps p.tables e below (T82.setTop (mkF m 110 #[.val (.ref r0), .val (.long q1), .second, .val (.long q2), .second, .val (.long q3), .second, .val (.int p4), .val (.int p5), .val (.int p6), .val (.int p7), .val (.ref b1), .val (.int j78_12_1)] [])) t
                    refine XS.aloadN X84.here hx rfl (hb hby chk_d110) rfl rfl ?_
                    show Steps p.tables e below (T82.setTop (mkF m 111 #[.val (.ref r0), .val (.long q1), .second, .val (.long q2), .second, .val (.long q3), .second, .val (.int p4), .val (.int p5), .val (.int p6), .val (.int p7), .val (.ref b1), .val (.int j78_12_1)] [(.ref r0)])) t
                    refine XS.iconst X84.here hx rfl (hb hby chk_d111) ?_
                    show Steps p.tables e below (T82.setTop (mkF m 112 #[.val (.ref r0), .val (.long q1), .second, .val (.long q2), .second, .val (.long q3), .second, .val (.int p4), .val (.int p5), .val (.int p6), .val (.int p7), .val (.ref b1), .val (.int j78_12_1)] [(.int (1 : Int32)), (.ref r0)])) t
                    refine ldIA X84 hx hZ e85 F89 (j := (1 : Int32)) (by first | exact own_g 1 hc82 hc107 hng | exact own_g 1 hc82 hc107_1 hng) (g := (mkF m 112 #[.val (.ref r0), .val (.long q1), .second, .val (.long q2), .second, .val (.long q3), .second, .val (.int p4), .val (.int p5), .val (.int p6), .val (.int p7), .val (.ref b1), .val (.int j78_12_1)] [(.int (1 : Int32)), (.ref r0)])) rfl rfl (hb hby chk_d112) _ ?_
                    show Steps p.tables e below (T82.setTop (mkF m 113 #[.val (.ref r0), .val (.long q1), .second, .val (.long q2), .second, .val (.long q3), .second, .val (.int p4), .val (.int p5), .val (.int p6), .val (.int p7), .val (.ref b1), .val (.int j78_12_1)] [(.int (fg ((1 : Int32)).toNatClampNeg))])) t
                    refine XS.aload X84.here hx rfl (hb hby chk_d113) rfl rfl ?_
                    show Steps p.tables e below (T82.setTop (mkF m 115 #[.val (.ref r0), .val (.long q1), .second, .val (.long q2), .second, .val (.long q3), .second, .val (.int p4), .val (.int p5), .val (.int p6), .val (.int p7), .val (.ref b1), .val (.int j78_12_1)] [(.ref b1), (.int (fg ((1 : Int32)).toNatClampNeg))])) t
                    refine XS.iconst X84.here hx rfl (hb hby chk_d115) ?_
                    show Steps p.tables e below (T82.setTop (mkF m 116 #[.val (.ref r0), .val (.long q1), .second, .val (.long q2), .second, .val (.long q3), .second, .val (.int p4), .val (.int p5), .val (.int p6), .val (.int p7), .val (.ref b1), .val (.int j78_12_1)] [(.int (1 : Int32)), (.ref b1), (.int (fg ((1 : Int32)).toNatClampNeg))])) t
                    refine ldIA X84 hx hZ e85 F90 (j := (1 : Int32)) (by decide) (g := (mkF m 116 #[.val (.ref r0), .val (.long q1), .second, .val (.long q2), .second, .val (.long q3), .second, .val (.int p4), .val (.int p5), .val (.int p6), .val (.int p7), .val (.ref b1), .val (.int j78_12_1)] [(.int (1 : Int32)), (.ref b1), (.int (fg ((1 : Int32)).toNatClampNeg))])) rfl rfl (hb hby chk_d116) _ ?_
                    exact kt
                  obtain ⟨jx117, pcx117, Lx117, Sx117, hjx117, hdx117, K105⟩ : ∃ (jx117 : Int32) (pcx117 : Nat) (Lx117 : Array Slot) (Sx117 : List Value), jx117 = (if (fg ((1 : Int32)).toNatClampNeg) = (jf78_1 ((1 : Int32)).toNatClampNeg) then (if (2 : Int32) < j78_12_1 then (if (fg ((2 : Int32)).toNatClampNeg) = (jf78_1 ((2 : Int32)).toNatClampNeg) then (1 : Int32) else (0 : Int32)) else (1 : Int32)) else (0 : Int32)) ∧ decode c.code pcx117 = .ok (.ireturn, 1) ∧ ∀ t, Steps p.tables e below (T82.setTop (mkF m pcx117 Lx117 ((.int jx117) :: Sx117))) t → P0 t := by
                    by_cases hc117 : (fg ((1 : Int32)).toNatClampNeg) = (jf78_1 ((1 : Int32)).toNatClampNeg)
                    · have K97 : ∀ t, Steps p.tables e below (T82.setTop (mkF m 125 #[.val (.ref r0), .val (.long q1), .second, .val (.long q2), .second, .val (.long q3), .second, .val (.int p4), .val (.int p5), .val (.int p6), .val (.int p7), .val (.ref b1), .val (.int j78_12_1)] [(.int (2 : Int32)), (.int j78_12_1)])) t → P0 t := by
                        intro t kt
                        refine K96 t ?_
                        show Steps p.tables e below (T82.setTop (mkF m 117 #[.val (.ref r0), .val (.long q1), .second, .val (.long q2), .second, .val (.long q3), .second, .val (.int p4), .val (.int p5), .val (.int p6), .val (.int p7), .val (.ref b1), .val (.int j78_12_1)] [(.int (jf78_1 ((1 : Int32)).toNatClampNeg)), (.int (fg ((1 : Int32)).toNatClampNeg))])) t
                        refine XS.icmpYes X84.here hx rfl (pc0 := 117) (pc' := 122) rfl (hb hby chk_d117) rfl (teq hc117).1 (by decide) (by decide) ?_
                        show Steps p.tables e below (T82.setTop (mkF m 122 #[.val (.ref r0), .val (.long q1), .second, .val (.long q2), .second, .val (.long q3), .second, .val (.int p4), .val (.int p5), .val (.int p6), .val (.int p7), .val (.ref b1), .val (.int j78_12_1)] [])) t
                        refine XS.iload X84.here hx rfl (hb hby chk_d122) rfl ?_
                        show Steps p.tables e below (T82.setTop (mkF m 124 #[.val (.ref r0), .val (.long q1), .second, .val (.long q2), .second, .val (.long q3), .second, .val (.int p4), .val (.int p5), .val (.int p6), .val (.int p7), .val (.ref b1), .val (.int j78_12_1)] [(.int j78_12_1)])) t
                        refine XS.iconst X84.here hx rfl (hb hby chk_d124) ?_
                        exact kt
                      obtain ⟨jx125, pcx125, Lx125, Sx125, hjx125, hdx125, K103⟩ : ∃ (jx125 : Int32) (pcx125 : Nat) (Lx125 : Array Slot) (Sx125 : List Value), jx125 = (if (2 : Int32) < j78_12_1 then (if (fg ((2 : Int32)).toNatClampNeg) = (jf78_1 ((2 : Int32)).toNatClampNeg) then (1 : Int32) else (0 : Int32)) else (1 : Int32)) ∧ decode c.code pcx125 = .ok (.ireturn, 1) ∧ ∀ t, Steps p.tables e below (T82.setTop (mkF m pcx125 Lx125 ((.int jx125) :: Sx125))) t → P0 t := by
                        by_cases hc125 : (2 : Int32) < j78_12_1
                        · have K98 : ∀ t, Steps p.tables e below (T82.setTop (mkF m 135 #[.val (.ref r0), .val (.long q1), .second, .val (.long q2), .second, .val (.long q3), .second, .val (.int p4), .val (.int p5), .val (.int p6), .val (.int p7), .val (.ref b1), .val (.int j78_12_1)] [(.int (jf78_1 ((2 : Int32)).toNatClampNeg)), (.int (fg ((2 : Int32)).toNatClampNeg))])) t → P0 t := by
                            intro t kt
                            refine K97 t ?_
                            show Steps p.tables e below (T82.setTop (mkF m 125 #[.val (.ref r0), .val (.long q1), .second, .val (.long q2), .second, .val (.long q3), .second, .val (.int p4), .val (.int p5), .val (.int p6), .val (.int p7), .val (.ref b1), .val (.int j78_12_1)] [(.int (2 : Int32)), (.int j78_12_1)])) t
                            refine XS.icmpNo X84.here hx rfl (hb hby chk_d125) rfl (tlt hc125).2.2.2 ?_
                            show Steps p.tables e below (T82.setTop (mkF m 128 #[.val (.ref r0), .val (.long q1), .second, .val (.long q2), .second, .val (.long q3), .second, .val (.int p4), .val (.int p5), .val (.int p6), .val (.int p7), .val (.ref b1), .val (.int j78_12_1)] [])) t
                            refine XS.aloadN X84.here hx rfl (hb hby chk_d128) rfl rfl ?_
                            show Steps p.tables e below (T82.setTop (mkF m 129 #[.val (.ref r0), .val (.long q1), .second, .val (.long q2), .second, .val (.long q3), .second, .val (.int p4), .val (.int p5), .val (.int p6), .val (.int p7), .val (.ref b1), .val (.int j78_12_1)] [(.ref r0)])) t
                            refine XS.iconst X84.here hx rfl (hb hby chk_d129) ?_
                            show Steps p.tables e below (T82.setTop (mkF m 130 #[.val (.ref r0), .val (.long q1), .second, .val (.long q2), .second, .val (.long q3), .second, .val (.int p4), .val (.int p5), .val (.int p6), .val (.int p7), .val (.ref b1), .val (.int j78_12_1)] [(.int (2 : Int32)), (.ref r0)])) t
                            refine ldIA X84 hx hZ e85 F89 (j := (2 : Int32)) (by first | exact own_g 2 hc82 hc125 hng | exact own_g 2 hc82 hc125_1 hng | exact own_g 2 hc82 hc125_2 hng | exact own_g 2 hc82 hc125_3 hng) (g := (mkF m 130 #[.val (.ref r0), .val (.long q1), .second, .val (.long q2), .second, .val (.long q3), .second, .val (.int p4), .val (.int p5), .val (.int p6), .val (.int p7), .val (.ref b1), .val (.int j78_12_1)] [(.int (2 : Int32)), (.ref r0)])) rfl rfl (hb hby chk_d130) _ ?_
                            show Steps p.tables e below (T82.setTop (mkF m 131 #[.val (.ref r0), .val (.long q1), .second, .val (.long q2), .second, .val (.long q3), .second, .val (.int p4), .val (.int p5), .val (.int p6), .val (.int p7), .val (.ref b1), .val (.int j78_12_1)] [(.int (fg ((2 : Int32)).toNatClampNeg))])) t
                            refine XS.aload X84.here hx rfl (hb hby chk_d131) rfl rfl ?_
                            show Steps p.tables e below (T82.setTop (mkF m 133 #[.val (.ref r0), .val (.long q1), .second, .val (.long q2), .second, .val (.long q3), .second, .val (.int p4), .val (.int p5), .val (.int p6), .val (.int p7), .val (.ref b1), .val (.int j78_12_1)] [(.ref b1), (.int (fg ((2 : Int32)).toNatClampNeg))])) t
                            refine XS.iconst X84.here hx rfl (hb hby chk_d133) ?_
                            show Steps p.tables e below (T82.setTop (mkF m 134 #[.val (.ref r0), .val (.long q1), .second, .val (.long q2), .second, .val (.long q3), .second, .val (.int p4), .val (.int p5), .val (.int p6), .val (.int p7), .val (.ref b1), .val (.int j78_12_1)] [(.int (2 : Int32)), (.ref b1), (.int (fg ((2 : Int32)).toNatClampNeg))])) t
                            refine ldIA X84 hx hZ e85 F90 (j := (2 : Int32)) (by decide) (g := (mkF m 134 #[.val (.ref r0), .val (.long q1), .second, .val (.long q2), .second, .val (.long q3), .second, .val (.int p4), .val (.int p5), .val (.int p6), .val (.int p7), .val (.ref b1), .val (.int j78_12_1)] [(.int (2 : Int32)), (.ref b1), (.int (fg ((2 : Int32)).toNatClampNeg))])) rfl rfl (hb hby chk_d134) _ ?_
                            exact kt
                          obtain ⟨jx135, pcx135, Lx135, Sx135, hjx135, hdx135, K101⟩ : ∃ (jx135 : Int32) (pcx135 : Nat) (Lx135 : Array Slot) (Sx135 : List Value), jx135 = (if (fg ((2 : Int32)).toNatClampNeg) = (jf78_1 ((2 : Int32)).toNatClampNeg) then (1 : Int32) else (0 : Int32)) ∧ decode c.code pcx135 = .ok (.ireturn, 1) ∧ ∀ t, Steps p.tables e below (T82.setTop (mkF m pcx135 Lx135 ((.int jx135) :: Sx135))) t → P0 t := by
                            by_cases hc135 : (fg ((2 : Int32)).toNatClampNeg) = (jf78_1 ((2 : Int32)).toNatClampNeg)
                            · have K99 : ∀ t, Steps p.tables e below (T82.setTop (mkF m 141 #[.val (.ref r0), .val (.long q1), .second, .val (.long q2), .second, .val (.long q3), .second, .val (.int p4), .val (.int p5), .val (.int p6), .val (.int p7), .val (.ref b1), .val (.int j78_12_1)] [(.int (1 : Int32))])) t → P0 t := by
                                intro t kt
                                refine K98 t ?_
                                show Steps p.tables e below (T82.setTop (mkF m 135 #[.val (.ref r0), .val (.long q1), .second, .val (.long q2), .second, .val (.long q3), .second, .val (.int p4), .val (.int p5), .val (.int p6), .val (.int p7), .val (.ref b1), .val (.int j78_12_1)] [(.int (jf78_1 ((2 : Int32)).toNatClampNeg)), (.int (fg ((2 : Int32)).toNatClampNeg))])) t
                                refine XS.icmpYes X84.here hx rfl (pc0 := 135) (pc' := 140) rfl (hb hby chk_d135) rfl (teq hc135).1 (by decide) (by decide) ?_
                                show Steps p.tables e below (T82.setTop (mkF m 140 #[.val (.ref r0), .val (.long q1), .second, .val (.long q2), .second, .val (.long q3), .second, .val (.int p4), .val (.int p5), .val (.int p6), .val (.int p7), .val (.ref b1), .val (.int j78_12_1)] [])) t
                                refine XS.iconst X84.here hx rfl (hb hby chk_d140) ?_
                                exact kt
                              exact ⟨_, _, _, _, (if_pos hc135).symm, (hb hby chk_d141), K99⟩
                            · have K100 : ∀ t, Steps p.tables e below (T82.setTop (mkF m 139 #[.val (.ref r0), .val (.long q1), .second, .val (.long q2), .second, .val (.long q3), .second, .val (.int p4), .val (.int p5), .val (.int p6), .val (.int p7), .val (.ref b1), .val (.int j78_12_1)] [(.int (0 : Int32))])) t → P0 t := by
                                intro t kt
                                refine K98 t ?_
                                show Steps p.tables e below (T82.setTop (mkF m 135 #[.val (.ref r0), .val (.long q1), .second, .val (.long q2), .second, .val (.long q3), .second, .val (.int p4), .val (.int p5), .val (.int p6), .val (.int p7), .val (.ref b1), .val (.int j78_12_1)] [(.int (jf78_1 ((2 : Int32)).toNatClampNeg)), (.int (fg ((2 : Int32)).toNatClampNeg))])) t
                                refine XS.icmpNo X84.here hx rfl (hb hby chk_d135) rfl (feq hc135).1 ?_
                                show Steps p.tables e below (T82.setTop (mkF m 138 #[.val (.ref r0), .val (.long q1), .second, .val (.long q2), .second, .val (.long q3), .second, .val (.int p4), .val (.int p5), .val (.int p6), .val (.int p7), .val (.ref b1), .val (.int j78_12_1)] [])) t
                                refine XS.iconst X84.here hx rfl (hb hby chk_d138) ?_
                                exact kt
                              exact ⟨_, _, _, _, (if_neg hc135).symm, (hb hby chk_d139), K100⟩
                          subst hjx135
                          exact ⟨_, _, _, _, (if_pos hc125).symm, hdx135, K101⟩
                        · have K102 : ∀ t, Steps p.tables e below (T82.setTop (mkF m 141 #[.val (.ref r0), .val (.long q1), .second, .val (.long q2), .second, .val (.long q3), .second, .val (.int p4), .val (.int p5), .val (.int p6), .val (.int p7), .val (.ref b1), .val (.int j78_12_1)] [(.int (1 : Int32))])) t → P0 t := by
                            intro t kt
                            refine K97 t ?_
                            show Steps p.tables e below (T82.setTop (mkF m 125 #[.val (.ref r0), .val (.long q1), .second, .val (.long q2), .second, .val (.long q3), .second, .val (.int p4), .val (.int p5), .val (.int p6), .val (.int p7), .val (.ref b1), .val (.int j78_12_1)] [(.int (2 : Int32)), (.int j78_12_1)])) t
                            refine XS.icmpYes X84.here hx rfl (pc0 := 125) (pc' := 140) rfl (hb hby chk_d125) rfl (flt hc125).2.2.2 (by decide) (by decide) ?_
                            show Steps p.tables e below (T82.setTop (mkF m 140 #[.val (.ref r0), .val (.long q1), .second, .val (.long q2), .second, .val (.long q3), .second, .val (.int p4), .val (.int p5), .val (.int p6), .val (.int p7), .val (.ref b1), .val (.int j78_12_1)] [])) t
                            refine XS.iconst X84.here hx rfl (hb hby chk_d140) ?_
                            exact kt
                          exact ⟨_, _, _, _, (if_neg hc125).symm, (hb hby chk_d141), K102⟩
                      subst hjx125
                      exact ⟨_, _, _, _, (if_pos hc117).symm, hdx125, K103⟩
                    · have K104 : ∀ t, Steps p.tables e below (T82.setTop (mkF m 121 #[.val (.ref r0), .val (.long q1), .second, .val (.long q2), .second, .val (.long q3), .second, .val (.int p4), .val (.int p5), .val (.int p6), .val (.int p7), .val (.ref b1), .val (.int j78_12_1)] [(.int (0 : Int32))])) t → P0 t := by
                        intro t kt
                        refine K96 t ?_
                        show Steps p.tables e below (T82.setTop (mkF m 117 #[.val (.ref r0), .val (.long q1), .second, .val (.long q2), .second, .val (.long q3), .second, .val (.int p4), .val (.int p5), .val (.int p6), .val (.int p7), .val (.ref b1), .val (.int j78_12_1)] [(.int (jf78_1 ((1 : Int32)).toNatClampNeg)), (.int (fg ((1 : Int32)).toNatClampNeg))])) t
                        refine XS.icmpNo X84.here hx rfl (hb hby chk_d117) rfl (feq hc117).1 ?_
                        show Steps p.tables e below (T82.setTop (mkF m 120 #[.val (.ref r0), .val (.long q1), .second, .val (.long q2), .second, .val (.long q3), .second, .val (.int p4), .val (.int p5), .val (.int p6), .val (.int p7), .val (.ref b1), .val (.int j78_12_1)] [])) t
                        refine XS.iconst X84.here hx rfl (hb hby chk_d120) ?_
                        exact kt
                      exact ⟨_, _, _, _, (if_neg hc117).symm, (hb hby chk_d121), K104⟩
                  subst hjx117
                  exact ⟨_, _, _, _, (if_pos hc107).symm, hdx117, K105⟩
                · have K106 : ∀ t, Steps p.tables e below (T82.setTop (mkF m 125 #[.val (.ref r0), .val (.long q1), .second, .val (.long q2), .second, .val (.long q3), .second, .val (.int p4), .val (.int p5), .val (.int p6), .val (.int p7), .val (.ref b1), .val (.int j78_12_1)] [(.int (2 : Int32)), (.int j78_12_1)])) t → P0 t := by
                    intro t kt
                    refine K95 t ?_
                    show Steps p.tables e below (T82.setTop (mkF m 107 #[.val (.ref r0), .val (.long q1), .second, .val (.long q2), .second, .val (.long q3), .second, .val (.int p4), .val (.int p5), .val (.int p6), .val (.int p7), .val (.ref b1), .val (.int j78_12_1)] [(.int (1 : Int32)), (.int j78_12_1)])) t
                    refine XS.icmpYes X84.here hx rfl (pc0 := 107) (pc' := 122) rfl (hb hby chk_d107) rfl (flt hc107).2.2.2 (by decide) (by decide) ?_
                    show Steps p.tables e below (T82.setTop (mkF m 122 #[.val (.ref r0), .val (.long q1), .second, .val (.long q2), .second, .val (.long q3), .second, .val (.int p4), .val (.int p5), .val (.int p6), .val (.int p7), .val (.ref b1), .val (.int j78_12_1)] [])) t
                    refine XS.iload X84.here hx rfl (hb hby chk_d122) rfl ?_
                    show Steps p.tables e below (T82.setTop (mkF m 124 #[.val (.ref r0), .val (.long q1), .second, .val (.long q2), .second, .val (.long q3), .second, .val (.int p4), .val (.int p5), .val (.int p6), .val (.int p7), .val (.ref b1), .val (.int j78_12_1)] [(.int j78_12_1)])) t
                    refine XS.iconst X84.here hx rfl (hb hby chk_d124) ?_
                    exact kt
                  obtain ⟨jx125_1, pcx125, Lx125, Sx125, hjx125_1, hdx125, K112⟩ : ∃ (jx125_1 : Int32) (pcx125 : Nat) (Lx125 : Array Slot) (Sx125 : List Value), jx125_1 = (if (2 : Int32) < j78_12_1 then (if (fg ((2 : Int32)).toNatClampNeg) = (jf78_1 ((2 : Int32)).toNatClampNeg) then (1 : Int32) else (0 : Int32)) else (1 : Int32)) ∧ decode c.code pcx125 = .ok (.ireturn, 1) ∧ ∀ t, Steps p.tables e below (T82.setTop (mkF m pcx125 Lx125 ((.int jx125_1) :: Sx125))) t → P0 t := by
                    by_cases hc125_1 : (2 : Int32) < j78_12_1
                    · have K107 : ∀ t, Steps p.tables e below (T82.setTop (mkF m 135 #[.val (.ref r0), .val (.long q1), .second, .val (.long q2), .second, .val (.long q3), .second, .val (.int p4), .val (.int p5), .val (.int p6), .val (.int p7), .val (.ref b1), .val (.int j78_12_1)] [(.int (jf78_1 ((2 : Int32)).toNatClampNeg)), (.int (fg ((2 : Int32)).toNatClampNeg))])) t → P0 t := by
                        intro t kt
                        refine K106 t ?_
                        show Steps p.tables e below (T82.setTop (mkF m 125 #[.val (.ref r0), .val (.long q1), .second, .val (.long q2), .second, .val (.long q3), .second, .val (.int p4), .val (.int p5), .val (.int p6), .val (.int p7), .val (.ref b1), .val (.int j78_12_1)] [(.int (2 : Int32)), (.int j78_12_1)])) t
                        refine XS.icmpNo X84.here hx rfl (hb hby chk_d125) rfl (tlt hc125_1).2.2.2 ?_
                        show Steps p.tables e below (T82.setTop (mkF m 128 #[.val (.ref r0), .val (.long q1), .second, .val (.long q2), .second, .val (.long q3), .second, .val (.int p4), .val (.int p5), .val (.int p6), .val (.int p7), .val (.ref b1), .val (.int j78_12_1)] [])) t
                        refine XS.aloadN X84.here hx rfl (hb hby chk_d128) rfl rfl ?_
                        show Steps p.tables e below (T82.setTop (mkF m 129 #[.val (.ref r0), .val (.long q1), .second, .val (.long q2), .second, .val (.long q3), .second, .val (.int p4), .val (.int p5), .val (.int p6), .val (.int p7), .val (.ref b1), .val (.int j78_12_1)] [(.ref r0)])) t
                        refine XS.iconst X84.here hx rfl (hb hby chk_d129) ?_
                        show Steps p.tables e below (T82.setTop (mkF m 130 #[.val (.ref r0), .val (.long q1), .second, .val (.long q2), .second, .val (.long q3), .second, .val (.int p4), .val (.int p5), .val (.int p6), .val (.int p7), .val (.ref b1), .val (.int j78_12_1)] [(.int (2 : Int32)), (.ref r0)])) t
                        refine ldIA X84 hx hZ e85 F89 (j := (2 : Int32)) (by first | exact own_g 2 hc82 hc125 hng | exact own_g 2 hc82 hc125_1 hng | exact own_g 2 hc82 hc125_2 hng | exact own_g 2 hc82 hc125_3 hng) (g := (mkF m 130 #[.val (.ref r0), .val (.long q1), .second, .val (.long q2), .second, .val (.long q3), .second, .val (.int p4), .val (.int p5), .val (.int p6), .val (.int p7), .val (.ref b1), .val (.int j78_12_1)] [(.int (2 : Int32)), (.ref r0)])) rfl rfl (hb hby chk_d130) _ ?_
                        show Steps p.tables e below (T82.setTop (mkF m 131 #[.val (.ref r0), .val (.long q1), .second, .val (.long q2), .second, .val (.long q3), .second, .val (.int p4), .val (.int p5), .val (.int p6), .val (.int p7), .val (.ref b1), .val (.int j78_12_1)] [(.int (fg ((2 : Int32)).toNatClampNeg))])) t
                        refine XS.aload X84.here hx rfl (hb hby chk_d131) rfl rfl ?_
                        show Steps p.tables e below (T82.setTop (mkF m 133 #[.val (.ref r0), .val (.long q1), .second, .val (.long q2), .second, .val (.long q3), .second, .val (.int p4), .val (.int p5), .val (.int p6), .val (.int p7), .val (.ref b1), .val (.int j78_12_1)] [(.ref b1), (.int (fg ((2 : Int32)).toNatClampNeg))])) t
                        refine XS.iconst X84.here hx rfl (hb hby chk_d133) ?_
                        show Steps p.tables e below (T82.setTop (mkF m 134 #[.val (.ref r0), .val (.long q1), .second, .val (.long q2), .second, .val (.long q3), .second, .val (.int p4), .val (.int p5), .val (.int p6), .val (.int p7), .val (.ref b1), .val (.int j78_12_1)] [(.int (2 : Int32)), (.ref b1), (.int (fg ((2 : Int32)).toNatClampNeg))])) t
                        refine ldIA X84 hx hZ e85 F90 (j := (2 : Int32)) (by decide) (g := (mkF m 134 #[.val (.ref r0), .val (.long q1), .second, .val (.long q2), .second, .val (.long q3), .second, .val (.int p4), .val (.int p5), .val (.int p6), .val (.int p7), .val (.ref b1), .val (.int j78_12_1)] [(.int (2 : Int32)), (.ref b1), (.int (fg ((2 : Int32)).toNatClampNeg))])) rfl rfl (hb hby chk_d134) _ ?_
                        exact kt
                      obtain ⟨jx135_1, pcx135, Lx135, Sx135, hjx135_1, hdx135, K110⟩ : ∃ (jx135_1 : Int32) (pcx135 : Nat) (Lx135 : Array Slot) (Sx135 : List Value), jx135_1 = (if (fg ((2 : Int32)).toNatClampNeg) = (jf78_1 ((2 : Int32)).toNatClampNeg) then (1 : Int32) else (0 : Int32)) ∧ decode c.code pcx135 = .ok (.ireturn, 1) ∧ ∀ t, Steps p.tables e below (T82.setTop (mkF m pcx135 Lx135 ((.int jx135_1) :: Sx135))) t → P0 t := by
                        by_cases hc135_1 : (fg ((2 : Int32)).toNatClampNeg) = (jf78_1 ((2 : Int32)).toNatClampNeg)
                        · have K108 : ∀ t, Steps p.tables e below (T82.setTop (mkF m 141 #[.val (.ref r0), .val (.long q1), .second, .val (.long q2), .second, .val (.long q3), .second, .val (.int p4), .val (.int p5), .val (.int p6), .val (.int p7), .val (.ref b1), .val (.int j78_12_1)] [(.int (1 : Int32))])) t → P0 t := by
                            intro t kt
                            refine K107 t ?_
                            show Steps p.tables e below (T82.setTop (mkF m 135 #[.val (.ref r0), .val (.long q1), .second, .val (.long q2), .second, .val (.long q3), .second, .val (.int p4), .val (.int p5), .val (.int p6), .val (.int p7), .val (.ref b1), .val (.int j78_12_1)] [(.int (jf78_1 ((2 : Int32)).toNatClampNeg)), (.int (fg ((2 : Int32)).toNatClampNeg))])) t
                            refine XS.icmpYes X84.here hx rfl (pc0 := 135) (pc' := 140) rfl (hb hby chk_d135) rfl (teq hc135_1).1 (by decide) (by decide) ?_
                            show Steps p.tables e below (T82.setTop (mkF m 140 #[.val (.ref r0), .val (.long q1), .second, .val (.long q2), .second, .val (.long q3), .second, .val (.int p4), .val (.int p5), .val (.int p6), .val (.int p7), .val (.ref b1), .val (.int j78_12_1)] [])) t
                            refine XS.iconst X84.here hx rfl (hb hby chk_d140) ?_
                            exact kt
                          exact ⟨_, _, _, _, (if_pos hc135_1).symm, (hb hby chk_d141), K108⟩
                        · have K109 : ∀ t, Steps p.tables e below (T82.setTop (mkF m 139 #[.val (.ref r0), .val (.long q1), .second, .val (.long q2), .second, .val (.long q3), .second, .val (.int p4), .val (.int p5), .val (.int p6), .val (.int p7), .val (.ref b1), .val (.int j78_12_1)] [(.int (0 : Int32))])) t → P0 t := by
                            intro t kt
                            refine K107 t ?_
                            show Steps p.tables e below (T82.setTop (mkF m 135 #[.val (.ref r0), .val (.long q1), .second, .val (.long q2), .second, .val (.long q3), .second, .val (.int p4), .val (.int p5), .val (.int p6), .val (.int p7), .val (.ref b1), .val (.int j78_12_1)] [(.int (jf78_1 ((2 : Int32)).toNatClampNeg)), (.int (fg ((2 : Int32)).toNatClampNeg))])) t
                            refine XS.icmpNo X84.here hx rfl (hb hby chk_d135) rfl (feq hc135_1).1 ?_
                            show Steps p.tables e below (T82.setTop (mkF m 138 #[.val (.ref r0), .val (.long q1), .second, .val (.long q2), .second, .val (.long q3), .second, .val (.int p4), .val (.int p5), .val (.int p6), .val (.int p7), .val (.ref b1), .val (.int j78_12_1)] [])) t
                            refine XS.iconst X84.here hx rfl (hb hby chk_d138) ?_
                            exact kt
                          exact ⟨_, _, _, _, (if_neg hc135_1).symm, (hb hby chk_d139), K109⟩
                      subst hjx135_1
                      exact ⟨_, _, _, _, (if_pos hc125_1).symm, hdx135, K110⟩
                    · have K111 : ∀ t, Steps p.tables e below (T82.setTop (mkF m 141 #[.val (.ref r0), .val (.long q1), .second, .val (.long q2), .second, .val (.long q3), .second, .val (.int p4), .val (.int p5), .val (.int p6), .val (.int p7), .val (.ref b1), .val (.int j78_12_1)] [(.int (1 : Int32))])) t → P0 t := by
                        intro t kt
                        refine K106 t ?_
                        show Steps p.tables e below (T82.setTop (mkF m 125 #[.val (.ref r0), .val (.long q1), .second, .val (.long q2), .second, .val (.long q3), .second, .val (.int p4), .val (.int p5), .val (.int p6), .val (.int p7), .val (.ref b1), .val (.int j78_12_1)] [(.int (2 : Int32)), (.int j78_12_1)])) t
                        refine XS.icmpYes X84.here hx rfl (pc0 := 125) (pc' := 140) rfl (hb hby chk_d125) rfl (flt hc125_1).2.2.2 (by decide) (by decide) ?_
                        show Steps p.tables e below (T82.setTop (mkF m 140 #[.val (.ref r0), .val (.long q1), .second, .val (.long q2), .second, .val (.long q3), .second, .val (.int p4), .val (.int p5), .val (.int p6), .val (.int p7), .val (.ref b1), .val (.int j78_12_1)] [])) t
                        refine XS.iconst X84.here hx rfl (hb hby chk_d140) ?_
                        exact kt
                      exact ⟨_, _, _, _, (if_neg hc125_1).symm, (hb hby chk_d141), K111⟩
                  subst hjx125_1
                  exact ⟨_, _, _, _, (if_neg hc107).symm, hdx125, K112⟩
              subst hjx107
              exact ⟨_, _, _, _, (if_pos hc99).symm, hdx107, K113⟩
            · have K114 : ∀ t, Steps p.tables e below (T82.setTop (mkF m 103 #[.val (.ref r0), .val (.long q1), .second, .val (.long q2), .second, .val (.long q3), .second, .val (.int p4), .val (.int p5), .val (.int p6), .val (.int p7), .val (.ref b1), .val (.int j78_12_1)] [(.int (0 : Int32))])) t → P0 t := by
                intro t kt
                refine K94 t ?_
                show Steps p.tables e below (T82.setTop (mkF m 99 #[.val (.ref r0), .val (.long q1), .second, .val (.long q2), .second, .val (.long q3), .second, .val (.int p4), .val (.int p5), .val (.int p6), .val (.int p7), .val (.ref b1), .val (.int j78_12_1)] [(.int (jf78_1 ((0 : Int32)).toNatClampNeg)), (.int (fg ((0 : Int32)).toNatClampNeg))])) t
                refine XS.icmpNo X84.here hx rfl (hb hby chk_d99) rfl (feq hc99).1 ?_
                show Steps p.tables e below (T82.setTop (mkF m 102 #[.val (.ref r0), .val (.long q1), .second, .val (.long q2), .second, .val (.long q3), .second, .val (.int p4), .val (.int p5), .val (.int p6), .val (.int p7), .val (.ref b1), .val (.int j78_12_1)] [])) t
                refine XS.iconst X84.here hx rfl (hb hby chk_d102) ?_
                exact kt
              exact ⟨_, _, _, _, (if_neg hc99).symm, (hb hby chk_d103), K114⟩
          subst hjx99
          exact ⟨_, _, _, _, (if_pos hc89).symm, hdx99, K115⟩
        · have K116 : ∀ t, Steps p.tables e below (T82.setTop (mkF m 107 #[.val (.ref r0), .val (.long q1), .second, .val (.long q2), .second, .val (.long q3), .second, .val (.int p4), .val (.int p5), .val (.int p6), .val (.int p7), .val (.ref b1), .val (.int j78_12_1)] [(.int (1 : Int32)), (.int j78_12_1)])) t → P0 t := by
            intro t kt
            refine K93 t ?_
            show Steps p.tables e below (T82.setTop (mkF m 89 #[.val (.ref r0), .val (.long q1), .second, .val (.long q2), .second, .val (.long q3), .second, .val (.int p4), .val (.int p5), .val (.int p6), .val (.int p7), .val (.ref b1), .val (.int j78_12_1)] [(.int j78_12_1)])) t
            refine XS.ifYes X84.here hx rfl (pc0 := 89) (pc' := 104) rfl (hb hby chk_d89) rfl ((if0 _ _).trans (flt hc89).2.2.2) (by decide) (by decide) ?_
            show Steps p.tables e below (T82.setTop (mkF m 104 #[.val (.ref r0), .val (.long q1), .second, .val (.long q2), .second, .val (.long q3), .second, .val (.int p4), .val (.int p5), .val (.int p6), .val (.int p7), .val (.ref b1), .val (.int j78_12_1)] [])) t
            refine XS.iload X84.here hx rfl (hb hby chk_d104) rfl ?_
            show Steps p.tables e below (T82.setTop (mkF m 106 #[.val (.ref r0), .val (.long q1), .second, .val (.long q2), .second, .val (.long q3), .second, .val (.int p4), .val (.int p5), .val (.int p6), .val (.int p7), .val (.ref b1), .val (.int j78_12_1)] [(.int j78_12_1)])) t
            refine XS.iconst X84.here hx rfl (hb hby chk_d106) ?_
            exact kt
          obtain ⟨jx107_1, pcx107, Lx107, Sx107, hjx107_1, hdx107, K134⟩ : ∃ (jx107_1 : Int32) (pcx107 : Nat) (Lx107 : Array Slot) (Sx107 : List Value), jx107_1 = (if (1 : Int32) < j78_12_1 then (if (fg ((1 : Int32)).toNatClampNeg) = (jf78_1 ((1 : Int32)).toNatClampNeg) then (if (2 : Int32) < j78_12_1 then (if (fg ((2 : Int32)).toNatClampNeg) = (jf78_1 ((2 : Int32)).toNatClampNeg) then (1 : Int32) else (0 : Int32)) else (1 : Int32)) else (0 : Int32)) else (if (2 : Int32) < j78_12_1 then (if (fg ((2 : Int32)).toNatClampNeg) = (jf78_1 ((2 : Int32)).toNatClampNeg) then (1 : Int32) else (0 : Int32)) else (1 : Int32))) ∧ decode c.code pcx107 = .ok (.ireturn, 1) ∧ ∀ t, Steps p.tables e below (T82.setTop (mkF m pcx107 Lx107 ((.int jx107_1) :: Sx107))) t → P0 t := by
            by_cases hc107_1 : (1 : Int32) < j78_12_1
            · have K117 : ∀ t, Steps p.tables e below (T82.setTop (mkF m 117 #[.val (.ref r0), .val (.long q1), .second, .val (.long q2), .second, .val (.long q3), .second, .val (.int p4), .val (.int p5), .val (.int p6), .val (.int p7), .val (.ref b1), .val (.int j78_12_1)] [(.int (jf78_1 ((1 : Int32)).toNatClampNeg)), (.int (fg ((1 : Int32)).toNatClampNeg))])) t → P0 t := by
                intro t kt
                refine K116 t ?_
                show Steps p.tables e below (T82.setTop (mkF m 107 #[.val (.ref r0), .val (.long q1), .second, .val (.long q2), .second, .val (.long q3), .second, .val (.int p4), .val (.int p5), .val (.int p6), .val (.int p7), .val (.ref b1), .val (.int j78_12_1)] [(.int (1 : Int32)), (.int j78_12_1)])) t
                refine XS.icmpNo X84.here hx rfl (hb hby chk_d107) rfl (tlt hc107_1).2.2.2 ?_
                show Steps p.tables e below (T82.setTop (mkF m 110 #[.val (.ref r0), .val (.long q1), .second, .val (.long q2), .second, .val (.long q3), .second, .val (.int p4), .val (.int p5), .val (.int p6), .val (.int p7), .val (.ref b1), .val (.int j78_12_1)] [])) t
                refine XS.aloadN X84.here hx rfl (hb hby chk_d110) rfl rfl ?_
                show Steps p.tables e below (T82.setTop (mkF m 111 #[.val (.ref r0), .val (.long q1), .second, .val (.long q2), .second, .val (.long q3), .second, .val (.int p4), .val (.int p5), .val (.int p6), .val (.int p7), .val (.ref b1), .val (.int j78_12_1)] [(.ref r0)])) t
                refine XS.iconst X84.here hx rfl (hb hby chk_d111) ?_
                show Steps p.tables e below (T82.setTop (mkF m 112 #[.val (.ref r0), .val (.long q1), .second, .val (.long q2), .second, .val (.long q3), .second, .val (.int p4), .val (.int p5), .val (.int p6), .val (.int p7), .val (.ref b1), .val (.int j78_12_1)] [(.int (1 : Int32)), (.ref r0)])) t
                refine ldIA X84 hx hZ e85 F89 (j := (1 : Int32)) (by first | exact own_g 1 hc82 hc107 hng | exact own_g 1 hc82 hc107_1 hng) (g := (mkF m 112 #[.val (.ref r0), .val (.long q1), .second, .val (.long q2), .second, .val (.long q3), .second, .val (.int p4), .val (.int p5), .val (.int p6), .val (.int p7), .val (.ref b1), .val (.int j78_12_1)] [(.int (1 : Int32)), (.ref r0)])) rfl rfl (hb hby chk_d112) _ ?_
                show Steps p.tables e below (T82.setTop (mkF m 113 #[.val (.ref r0), .val (.long q1), .second, .val (.long q2), .second, .val (.long q3), .second, .val (.int p4), .val (.int p5), .val (.int p6), .val (.int p7), .val (.ref b1), .val (.int j78_12_1)] [(.int (fg ((1 : Int32)).toNatClampNeg))])) t
                refine XS.aload X84.here hx rfl (hb hby chk_d113) rfl rfl ?_
                show Steps p.tables e below (T82.setTop (mkF m 115 #[.val (.ref r0), .val (.long q1), .second, .val (.long q2), .second, .val (.long q3), .second, .val (.int p4), .val (.int p5), .val (.int p6), .val (.int p7), .val (.ref b1), .val (.int j78_12_1)] [(.ref b1), (.int (fg ((1 : Int32)).toNatClampNeg))])) t
                refine XS.iconst X84.here hx rfl (hb hby chk_d115) ?_
                show Steps p.tables e below (T82.setTop (mkF m 116 #[.val (.ref r0), .val (.long q1), .second, .val (.long q2), .second, .val (.long q3), .second, .val (.int p4), .val (.int p5), .val (.int p6), .val (.int p7), .val (.ref b1), .val (.int j78_12_1)] [(.int (1 : Int32)), (.ref b1), (.int (fg ((1 : Int32)).toNatClampNeg))])) t
                refine ldIA X84 hx hZ e85 F90 (j := (1 : Int32)) (by decide) (g := (mkF m 116 #[.val (.ref r0), .val (.long q1), .second, .val (.long q2), .second, .val (.long q3), .second, .val (.int p4), .val (.int p5), .val (.int p6), .val (.int p7), .val (.ref b1), .val (.int j78_12_1)] [(.int (1 : Int32)), (.ref b1), (.int (fg ((1 : Int32)).toNatClampNeg))])) rfl rfl (hb hby chk_d116) _ ?_
                exact kt
              obtain ⟨jx117_1, pcx117, Lx117, Sx117, hjx117_1, hdx117, K126⟩ : ∃ (jx117_1 : Int32) (pcx117 : Nat) (Lx117 : Array Slot) (Sx117 : List Value), jx117_1 = (if (fg ((1 : Int32)).toNatClampNeg) = (jf78_1 ((1 : Int32)).toNatClampNeg) then (if (2 : Int32) < j78_12_1 then (if (fg ((2 : Int32)).toNatClampNeg) = (jf78_1 ((2 : Int32)).toNatClampNeg) then (1 : Int32) else (0 : Int32)) else (1 : Int32)) else (0 : Int32)) ∧ decode c.code pcx117 = .ok (.ireturn, 1) ∧ ∀ t, Steps p.tables e below (T82.setTop (mkF m pcx117 Lx117 ((.int jx117_1) :: Sx117))) t → P0 t := by
                by_cases hc117_1 : (fg ((1 : Int32)).toNatClampNeg) = (jf78_1 ((1 : Int32)).toNatClampNeg)
                · have K118 : ∀ t, Steps p.tables e below (T82.setTop (mkF m 125 #[.val (.ref r0), .val (.long q1), .second, .val (.long q2), .second, .val (.long q3), .second, .val (.int p4), .val (.int p5), .val (.int p6), .val (.int p7), .val (.ref b1), .val (.int j78_12_1)] [(.int (2 : Int32)), (.int j78_12_1)])) t → P0 t := by
                    intro t kt
                    refine K117 t ?_
                    show Steps p.tables e below (T82.setTop (mkF m 117 #[.val (.ref r0), .val (.long q1), .second, .val (.long q2), .second, .val (.long q3), .second, .val (.int p4), .val (.int p5), .val (.int p6), .val (.int p7), .val (.ref b1), .val (.int j78_12_1)] [(.int (jf78_1 ((1 : Int32)).toNatClampNeg)), (.int (fg ((1 : Int32)).toNatClampNeg))])) t
                    refine XS.icmpYes X84.here hx rfl (pc0 := 117) (pc' := 122) rfl (hb hby chk_d117) rfl (teq hc117_1).1 (by decide) (by decide) ?_
                    show Steps p.tables e below (T82.setTop (mkF m 122 #[.val (.ref r0), .val (.long q1), .second, .val (.long q2), .second, .val (.long q3), .second, .val (.int p4), .val (.int p5), .val (.int p6), .val (.int p7), .val (.ref b1), .val (.int j78_12_1)] [])) t
                    refine XS.iload X84.here hx rfl (hb hby chk_d122) rfl ?_
                    show Steps p.tables e below (T82.setTop (mkF m 124 #[.val (.ref r0), .val (.long q1), .second, .val (.long q2), .second, .val (.long q3), .second, .val (.int p4), .val (.int p5), .val (.int p6), .val (.int p7), .val (.ref b1), .val (.int j78_12_1)] [(.int j78_12_1)])) t
                    refine XS.iconst X84.here hx rfl (hb hby chk_d124) ?_
                    exact kt
                  obtain ⟨jx125_2, pcx125, Lx125, Sx125, hjx125_2, hdx125, K124⟩ : ∃ (jx125_2 : Int32) (pcx125 : Nat) (Lx125 : Array Slot) (Sx125 : List Value), jx125_2 = (if (2 : Int32) < j78_12_1 then (if (fg ((2 : Int32)).toNatClampNeg) = (jf78_1 ((2 : Int32)).toNatClampNeg) then (1 : Int32) else (0 : Int32)) else (1 : Int32)) ∧ decode c.code pcx125 = .ok (.ireturn, 1) ∧ ∀ t, Steps p.tables e below (T82.setTop (mkF m pcx125 Lx125 ((.int jx125_2) :: Sx125))) t → P0 t := by
                    by_cases hc125_2 : (2 : Int32) < j78_12_1
                    · have K119 : ∀ t, Steps p.tables e below (T82.setTop (mkF m 135 #[.val (.ref r0), .val (.long q1), .second, .val (.long q2), .second, .val (.long q3), .second, .val (.int p4), .val (.int p5), .val (.int p6), .val (.int p7), .val (.ref b1), .val (.int j78_12_1)] [(.int (jf78_1 ((2 : Int32)).toNatClampNeg)), (.int (fg ((2 : Int32)).toNatClampNeg))])) t → P0 t := by
                        intro t kt
                        refine K118 t ?_
                        show Steps p.tables e below (T82.setTop (mkF m 125 #[.val (.ref r0), .val (.long q1), .second, .val (.long q2), .second, .val (.long q3), .second, .val (.int p4), .val (.int p5), .val (.int p6), .val (.int p7), .val (.ref b1), .val (.int j78_12_1)] [(.int (2 : Int32)), (.int j78_12_1)])) t
                        refine XS.icmpNo X84.here hx rfl (hb hby chk_d125) rfl (tlt hc125_2).2.2.2 ?_
                        show Steps p.tables e below (T82.setTop (mkF m 128 #[.val (.ref r0), .val (.long q1), .second, .val (.long q2), .second, .val (.long q3), .second, .val (.int p4), .val (.int p5), .val (.int p6), .val (.int p7), .val (.ref b1), .val (.int j78_12_1)] [])) t
                        refine XS.aloadN X84.here hx rfl (hb hby chk_d128) rfl rfl ?_
                        show Steps p.tables e below (T82.setTop (mkF m 129 #[.val (.ref r0), .val (.long q1), .second, .val (.long q2), .second, .val (.long q3), .second, .val (.int p4), .val (.int p5), .val (.int p6), .val (.int p7), .val (.ref b1), .val (.int j78_12_1)] [(.ref r0)])) t
                        refine XS.iconst X84.here hx rfl (hb hby chk_d129) ?_
                        show Steps p.tables e below (T82.setTop (mkF m 130 #[.val (.ref r0), .val (.long q1), .second, .val (.long q2), .second, .val (.long q3), .second, .val (.int p4), .val (.int p5), .val (.int p6), .val (.int p7), .val (.ref b1), .val (.int j78_12_1)] [(.int (2 : Int32)), (.ref r0)])) t
                        refine ldIA X84 hx hZ e85 F89 (j := (2 : Int32)) (by first | exact own_g 2 hc82 hc125 hng | exact own_g 2 hc82 hc125_1 hng | exact own_g 2 hc82 hc125_2 hng | exact own_g 2 hc82 hc125_3 hng) (g := (mkF m 130 #[.val (.ref r0), .val (.long q1), .second, .val (.long q2), .second, .val (.long q3), .second, .val (.int p4), .val (.int p5), .val (.int p6), .val (.int p7), .val (.ref b1), .val (.int j78_12_1)] [(.int (2 : Int32)), (.ref r0)])) rfl rfl (hb hby chk_d130) _ ?_
                        show Steps p.tables e below (T82.setTop (mkF m 131 #[.val (.ref r0), .val (.long q1), .second, .val (.long q2), .second, .val (.long q3), .second, .val (.int p4), .val (.int p5), .val (.int p6), .val (.int p7), .val (.ref b1), .val (.int j78_12_1)] [(.int (fg ((2 : Int32)).toNatClampNeg))])) t
                        refine XS.aload X84.here hx rfl (hb hby chk_d131) rfl rfl ?_
                        show Steps p.tables e below (T82.setTop (mkF m 133 #[.val (.ref r0), .val (.long q1), .second, .val (.long q2), .second, .val (.long q3), .second, .val (.int p4), .val (.int p5), .val (.int p6), .val (.int p7), .val (.ref b1), .val (.int j78_12_1)] [(.ref b1), (.int (fg ((2 : Int32)).toNatClampNeg))])) t
                        refine XS.iconst X84.here hx rfl (hb hby chk_d133) ?_
                        show Steps p.tables e below (T82.setTop (mkF m 134 #[.val (.ref r0), .val (.long q1), .second, .val (.long q2), .second, .val (.long q3), .second, .val (.int p4), .val (.int p5), .val (.int p6), .val (.int p7), .val (.ref b1), .val (.int j78_12_1)] [(.int (2 : Int32)), (.ref b1), (.int (fg ((2 : Int32)).toNatClampNeg))])) t
                        refine ldIA X84 hx hZ e85 F90 (j := (2 : Int32)) (by decide) (g := (mkF m 134 #[.val (.ref r0), .val (.long q1), .second, .val (.long q2), .second, .val (.long q3), .second, .val (.int p4), .val (.int p5), .val (.int p6), .val (.int p7), .val (.ref b1), .val (.int j78_12_1)] [(.int (2 : Int32)), (.ref b1), (.int (fg ((2 : Int32)).toNatClampNeg))])) rfl rfl (hb hby chk_d134) _ ?_
                        exact kt
                      obtain ⟨jx135_2, pcx135, Lx135, Sx135, hjx135_2, hdx135, K122⟩ : ∃ (jx135_2 : Int32) (pcx135 : Nat) (Lx135 : Array Slot) (Sx135 : List Value), jx135_2 = (if (fg ((2 : Int32)).toNatClampNeg) = (jf78_1 ((2 : Int32)).toNatClampNeg) then (1 : Int32) else (0 : Int32)) ∧ decode c.code pcx135 = .ok (.ireturn, 1) ∧ ∀ t, Steps p.tables e below (T82.setTop (mkF m pcx135 Lx135 ((.int jx135_2) :: Sx135))) t → P0 t := by
                        by_cases hc135_2 : (fg ((2 : Int32)).toNatClampNeg) = (jf78_1 ((2 : Int32)).toNatClampNeg)
                        · have K120 : ∀ t, Steps p.tables e below (T82.setTop (mkF m 141 #[.val (.ref r0), .val (.long q1), .second, .val (.long q2), .second, .val (.long q3), .second, .val (.int p4), .val (.int p5), .val (.int p6), .val (.int p7), .val (.ref b1), .val (.int j78_12_1)] [(.int (1 : Int32))])) t → P0 t := by
                            intro t kt
                            refine K119 t ?_
                            show Steps p.tables e below (T82.setTop (mkF m 135 #[.val (.ref r0), .val (.long q1), .second, .val (.long q2), .second, .val (.long q3), .second, .val (.int p4), .val (.int p5), .val (.int p6), .val (.int p7), .val (.ref b1), .val (.int j78_12_1)] [(.int (jf78_1 ((2 : Int32)).toNatClampNeg)), (.int (fg ((2 : Int32)).toNatClampNeg))])) t
                            refine XS.icmpYes X84.here hx rfl (pc0 := 135) (pc' := 140) rfl (hb hby chk_d135) rfl (teq hc135_2).1 (by decide) (by decide) ?_
                            show Steps p.tables e below (T82.setTop (mkF m 140 #[.val (.ref r0), .val (.long q1), .second, .val (.long q2), .second, .val (.long q3), .second, .val (.int p4), .val (.int p5), .val (.int p6), .val (.int p7), .val (.ref b1), .val (.int j78_12_1)] [])) t
                            refine XS.iconst X84.here hx rfl (hb hby chk_d140) ?_
                            exact kt
                          exact ⟨_, _, _, _, (if_pos hc135_2).symm, (hb hby chk_d141), K120⟩
                        · have K121 : ∀ t, Steps p.tables e below (T82.setTop (mkF m 139 #[.val (.ref r0), .val (.long q1), .second, .val (.long q2), .second, .val (.long q3), .second, .val (.int p4), .val (.int p5), .val (.int p6), .val (.int p7), .val (.ref b1), .val (.int j78_12_1)] [(.int (0 : Int32))])) t → P0 t := by
                            intro t kt
                            refine K119 t ?_
                            show Steps p.tables e below (T82.setTop (mkF m 135 #[.val (.ref r0), .val (.long q1), .second, .val (.long q2), .second, .val (.long q3), .second, .val (.int p4), .val (.int p5), .val (.int p6), .val (.int p7), .val (.ref b1), .val (.int j78_12_1)] [(.int (jf78_1 ((2 : Int32)).toNatClampNeg)), (.int (fg ((2 : Int32)).toNatClampNeg))])) t
                            refine XS.icmpNo X84.here hx rfl (hb hby chk_d135) rfl (feq hc135_2).1 ?_
                            show Steps p.tables e below (T82.setTop (mkF m 138 #[.val (.ref r0), .val (.long q1), .second, .val (.long q2), .second, .val (.long q3), .second, .val (.int p4), .val (.int p5), .val (.int p6), .val (.int p7), .val (.ref b1), .val (.int j78_12_1)] [])) t
                            refine XS.iconst X84.here hx rfl (hb hby chk_d138) ?_
                            exact kt
                          exact ⟨_, _, _, _, (if_neg hc135_2).symm, (hb hby chk_d139), K121⟩
                      subst hjx135_2
                      exact ⟨_, _, _, _, (if_pos hc125_2).symm, hdx135, K122⟩
                    · have K123 : ∀ t, Steps p.tables e below (T82.setTop (mkF m 141 #[.val (.ref r0), .val (.long q1), .second, .val (.long q2), .second, .val (.long q3), .second, .val (.int p4), .val (.int p5), .val (.int p6), .val (.int p7), .val (.ref b1), .val (.int j78_12_1)] [(.int (1 : Int32))])) t → P0 t := by
                        intro t kt
                        refine K118 t ?_
                        show Steps p.tables e below (T82.setTop (mkF m 125 #[.val (.ref r0), .val (.long q1), .second, .val (.long q2), .second, .val (.long q3), .second, .val (.int p4), .val (.int p5), .val (.int p6), .val (.int p7), .val (.ref b1), .val (.int j78_12_1)] [(.int (2 : Int32)), (.int j78_12_1)])) t
                        refine XS.icmpYes X84.here hx rfl (pc0 := 125) (pc' := 140) rfl (hb hby chk_d125) rfl (flt hc125_2).2.2.2 (by decide) (by decide) ?_
                        show Steps p.tables e below (T82.setTop (mkF m 140 #[.val (.ref r0), .val (.long q1), .second, .val (.long q2), .second, .val (.long q3), .second, .val (.int p4), .val (.int p5), .val (.int p6), .val (.int p7), .val (.ref b1), .val (.int j78_12_1)] [])) t
                        refine XS.iconst X84.here hx rfl (hb hby chk_d140) ?_
                        exact kt
                      exact ⟨_, _, _, _, (if_neg hc125_2).symm, (hb hby chk_d141), K123⟩
                  subst hjx125_2
                  exact ⟨_, _, _, _, (if_pos hc117_1).symm, hdx125, K124⟩
                · have K125 : ∀ t, Steps p.tables e below (T82.setTop (mkF m 121 #[.val (.ref r0), .val (.long q1), .second, .val (.long q2), .second, .val (.long q3), .second, .val (.int p4), .val (.int p5), .val (.int p6), .val (.int p7), .val (.ref b1), .val (.int j78_12_1)] [(.int (0 : Int32))])) t → P0 t := by
                    intro t kt
                    refine K117 t ?_
                    show Steps p.tables e below (T82.setTop (mkF m 117 #[.val (.ref r0), .val (.long q1), .second, .val (.long q2), .second, .val (.long q3), .second, .val (.int p4), .val (.int p5), .val (.int p6), .val (.int p7), .val (.ref b1), .val (.int j78_12_1)] [(.int (jf78_1 ((1 : Int32)).toNatClampNeg)), (.int (fg ((1 : Int32)).toNatClampNeg))])) t
                    refine XS.icmpNo X84.here hx rfl (hb hby chk_d117) rfl (feq hc117_1).1 ?_
                    show Steps p.tables e below (T82.setTop (mkF m 120 #[.val (.ref r0), .val (.long q1), .second, .val (.long q2), .second, .val (.long q3), .second, .val (.int p4), .val (.int p5), .val (.int p6), .val (.int p7), .val (.ref b1), .val (.int j78_12_1)] [])) t
                    refine XS.iconst X84.here hx rfl (hb hby chk_d120) ?_
                    exact kt
                  exact ⟨_, _, _, _, (if_neg hc117_1).symm, (hb hby chk_d121), K125⟩
              subst hjx117_1
              exact ⟨_, _, _, _, (if_pos hc107_1).symm, hdx117, K126⟩
            · have K127 : ∀ t, Steps p.tables e below (T82.setTop (mkF m 125 #[.val (.ref r0), .val (.long q1), .second, .val (.long q2), .second, .val (.long q3), .second, .val (.int p4), .val (.int p5), .val (.int p6), .val (.int p7), .val (.ref b1), .val (.int j78_12_1)] [(.int (2 : Int32)), (.int j78_12_1)])) t → P0 t := by
                intro t kt
                refine K116 t ?_
                show Steps p.tables e below (T82.setTop (mkF m 107 #[.val (.ref r0), .val (.long q1), .second, .val (.long q2), .second, .val (.long q3), .second, .val (.int p4), .val (.int p5), .val (.int p6), .val (.int p7), .val (.ref b1), .val (.int j78_12_1)] [(.int (1 : Int32)), (.int j78_12_1)])) t
                refine XS.icmpYes X84.here hx rfl (pc0 := 107) (pc' := 122) rfl (hb hby chk_d107) rfl (flt hc107_1).2.2.2 (by decide) (by decide) ?_
                show Steps p.tables e below (T82.setTop (mkF m 122 #[.val (.ref r0), .val (.long q1), .second, .val (.long q2), .second, .val (.long q3), .second, .val (.int p4), .val (.int p5), .val (.int p6), .val (.int p7), .val (.ref b1), .val (.int j78_12_1)] [])) t
                refine XS.iload X84.here hx rfl (hb hby chk_d122) rfl ?_
                show Steps p.tables e below (T82.setTop (mkF m 124 #[.val (.ref r0), .val (.long q1), .second, .val (.long q2), .second, .val (.long q3), .second, .val (.int p4), .val (.int p5), .val (.int p6), .val (.int p7), .val (.ref b1), .val (.int j78_12_1)] [(.int j78_12_1)])) t
                refine XS.iconst X84.here hx rfl (hb hby chk_d124) ?_
                exact kt
              obtain ⟨jx125_3, pcx125, Lx125, Sx125, hjx125_3, hdx125, K133⟩ : ∃ (jx125_3 : Int32) (pcx125 : Nat) (Lx125 : Array Slot) (Sx125 : List Value), jx125_3 = (if (2 : Int32) < j78_12_1 then (if (fg ((2 : Int32)).toNatClampNeg) = (jf78_1 ((2 : Int32)).toNatClampNeg) then (1 : Int32) else (0 : Int32)) else (1 : Int32)) ∧ decode c.code pcx125 = .ok (.ireturn, 1) ∧ ∀ t, Steps p.tables e below (T82.setTop (mkF m pcx125 Lx125 ((.int jx125_3) :: Sx125))) t → P0 t := by
                by_cases hc125_3 : (2 : Int32) < j78_12_1
                · have K128 : ∀ t, Steps p.tables e below (T82.setTop (mkF m 135 #[.val (.ref r0), .val (.long q1), .second, .val (.long q2), .second, .val (.long q3), .second, .val (.int p4), .val (.int p5), .val (.int p6), .val (.int p7), .val (.ref b1), .val (.int j78_12_1)] [(.int (jf78_1 ((2 : Int32)).toNatClampNeg)), (.int (fg ((2 : Int32)).toNatClampNeg))])) t → P0 t := by
                    intro t kt
                    refine K127 t ?_
                    show Steps p.tables e below (T82.setTop (mkF m 125 #[.val (.ref r0), .val (.long q1), .second, .val (.long q2), .second, .val (.long q3), .second, .val (.int p4), .val (.int p5), .val (.int p6), .val (.int p7), .val (.ref b1), .val (.int j78_12_1)] [(.int (2 : Int32)), (.int j78_12_1)])) t
                    refine XS.icmpNo X84.here hx rfl (hb hby chk_d125) rfl (tlt hc125_3).2.2.2 ?_
                    show Steps p.tables e below (T82.setTop (mkF m 128 #[.val (.ref r0), .val (.long q1), .second, .val (.long q2), .second, .val (.long q3), .second, .val (.int p4), .val (.int p5), .val (.int p6), .val (.int p7), .val (.ref b1), .val (.int j78_12_1)] [])) t
                    refine XS.aloadN X84.here hx rfl (hb hby chk_d128) rfl rfl ?_
                    show Steps p.tables e below (T82.setTop (mkF m 129 #[.val (.ref r0), .val (.long q1), .second, .val (.long q2), .second, .val (.long q3), .second, .val (.int p4), .val (.int p5), .val (.int p6), .val (.int p7), .val (.ref b1), .val (.int j78_12_1)] [(.ref r0)])) t
                    refine XS.iconst X84.here hx rfl (hb hby chk_d129) ?_
                    show Steps p.tables e below (T82.setTop (mkF m 130 #[.val (.ref r0), .val (.long q1), .second, .val (.long q2), .second, .val (.long q3), .second, .val (.int p4), .val (.int p5), .val (.int p6), .val (.int p7), .val (.ref b1), .val (.int j78_12_1)] [(.int (2 : Int32)), (.ref r0)])) t
                    refine ldIA X84 hx hZ e85 F89 (j := (2 : Int32)) (by first | exact own_g 2 hc82 hc125 hng | exact own_g 2 hc82 hc125_1 hng | exact own_g 2 hc82 hc125_2 hng | exact own_g 2 hc82 hc125_3 hng) (g := (mkF m 130 #[.val (.ref r0), .val (.long q1), .second, .val (.long q2), .second, .val (.long q3), .second, .val (.int p4), .val (.int p5), .val (.int p6), .val (.int p7), .val (.ref b1), .val (.int j78_12_1)] [(.int (2 : Int32)), (.ref r0)])) rfl rfl (hb hby chk_d130) _ ?_
                    show Steps p.tables e below (T82.setTop (mkF m 131 #[.val (.ref r0), .val (.long q1), .second, .val (.long q2), .second, .val (.long q3), .second, .val (.int p4), .val (.int p5), .val (.int p6), .val (.int p7), .val (.ref b1), .val (.int j78_12_1)] [(.int (fg ((2 : Int32)).toNatClampNeg))])) t
                    refine XS.aload X84.here hx rfl (hb hby chk_d131) rfl rfl ?_
                    show Steps p.tables e below (T82.setTop (mkF m 133 #[.val (.ref r0), .val (.long q1), .second, .val (.long q2), .second, .val (.long q3), .second, .val (.int p4), .val (.int p5), .val (.int p6), .val (.int p7), .val (.ref b1), .val (.int j78_12_1)] [(.ref b1), (.int (fg ((2 : Int32)).toNatClampNeg))])) t
                    refine XS.iconst X84.here hx rfl (hb hby chk_d133) ?_
                    show Steps p.tables e below (T82.setTop (mkF m 134 #[.val (.ref r0), .val (.long q1), .second, .val (.long q2), .second, .val (.long q3), .second, .val (.int p4), .val (.int p5), .val (.int p6), .val (.int p7), .val (.ref b1), .val (.int j78_12_1)] [(.int (2 : Int32)), (.ref b1), (.int (fg ((2 : Int32)).toNatClampNeg))])) t
                    refine ldIA X84 hx hZ e85 F90 (j := (2 : Int32)) (by decide) (g := (mkF m 134 #[.val (.ref r0), .val (.long q1), .second, .val (.long q2), .second, .val (.long q3), .second, .val (.int p4), .val (.int p5), .val (.int p6), .val (.int p7), .val (.ref b1), .val (.int j78_12_1)] [(.int (2 : Int32)), (.ref b1), (.int (fg ((2 : Int32)).toNatClampNeg))])) rfl rfl (hb hby chk_d134) _ ?_
                    exact kt
                  obtain ⟨jx135_3, pcx135, Lx135, Sx135, hjx135_3, hdx135, K131⟩ : ∃ (jx135_3 : Int32) (pcx135 : Nat) (Lx135 : Array Slot) (Sx135 : List Value), jx135_3 = (if (fg ((2 : Int32)).toNatClampNeg) = (jf78_1 ((2 : Int32)).toNatClampNeg) then (1 : Int32) else (0 : Int32)) ∧ decode c.code pcx135 = .ok (.ireturn, 1) ∧ ∀ t, Steps p.tables e below (T82.setTop (mkF m pcx135 Lx135 ((.int jx135_3) :: Sx135))) t → P0 t := by
                    by_cases hc135_3 : (fg ((2 : Int32)).toNatClampNeg) = (jf78_1 ((2 : Int32)).toNatClampNeg)
                    · have K129 : ∀ t, Steps p.tables e below (T82.setTop (mkF m 141 #[.val (.ref r0), .val (.long q1), .second, .val (.long q2), .second, .val (.long q3), .second, .val (.int p4), .val (.int p5), .val (.int p6), .val (.int p7), .val (.ref b1), .val (.int j78_12_1)] [(.int (1 : Int32))])) t → P0 t := by
                        intro t kt
                        refine K128 t ?_
                        show Steps p.tables e below (T82.setTop (mkF m 135 #[.val (.ref r0), .val (.long q1), .second, .val (.long q2), .second, .val (.long q3), .second, .val (.int p4), .val (.int p5), .val (.int p6), .val (.int p7), .val (.ref b1), .val (.int j78_12_1)] [(.int (jf78_1 ((2 : Int32)).toNatClampNeg)), (.int (fg ((2 : Int32)).toNatClampNeg))])) t
                        refine XS.icmpYes X84.here hx rfl (pc0 := 135) (pc' := 140) rfl (hb hby chk_d135) rfl (teq hc135_3).1 (by decide) (by decide) ?_
                        show Steps p.tables e below (T82.setTop (mkF m 140 #[.val (.ref r0), .val (.long q1), .second, .val (.long q2), .second, .val (.long q3), .second, .val (.int p4), .val (.int p5), .val (.int p6), .val (.int p7), .val (.ref b1), .val (.int j78_12_1)] [])) t
                        refine XS.iconst X84.here hx rfl (hb hby chk_d140) ?_
                        exact kt
                      exact ⟨_, _, _, _, (if_pos hc135_3).symm, (hb hby chk_d141), K129⟩
                    · have K130 : ∀ t, Steps p.tables e below (T82.setTop (mkF m 139 #[.val (.ref r0), .val (.long q1), .second, .val (.long q2), .second, .val (.long q3), .second, .val (.int p4), .val (.int p5), .val (.int p6), .val (.int p7), .val (.ref b1), .val (.int j78_12_1)] [(.int (0 : Int32))])) t → P0 t := by
                        intro t kt
                        refine K128 t ?_
                        show Steps p.tables e below (T82.setTop (mkF m 135 #[.val (.ref r0), .val (.long q1), .second, .val (.long q2), .second, .val (.long q3), .second, .val (.int p4), .val (.int p5), .val (.int p6), .val (.int p7), .val (.ref b1), .val (.int j78_12_1)] [(.int (jf78_1 ((2 : Int32)).toNatClampNeg)), (.int (fg ((2 : Int32)).toNatClampNeg))])) t
                        refine XS.icmpNo X84.here hx rfl (hb hby chk_d135) rfl (feq hc135_3).1 ?_
                        show Steps p.tables e below (T82.setTop (mkF m 138 #[.val (.ref r0), .val (.long q1), .second, .val (.long q2), .second, .val (.long q3), .second, .val (.int p4), .val (.int p5), .val (.int p6), .val (.int p7), .val (.ref b1), .val (.int j78_12_1)] [])) t
                        refine XS.iconst X84.here hx rfl (hb hby chk_d138) ?_
                        exact kt
                      exact ⟨_, _, _, _, (if_neg hc135_3).symm, (hb hby chk_d139), K130⟩
                  subst hjx135_3
                  exact ⟨_, _, _, _, (if_pos hc125_3).symm, hdx135, K131⟩
                · have K132 : ∀ t, Steps p.tables e below (T82.setTop (mkF m 141 #[.val (.ref r0), .val (.long q1), .second, .val (.long q2), .second, .val (.long q3), .second, .val (.int p4), .val (.int p5), .val (.int p6), .val (.int p7), .val (.ref b1), .val (.int j78_12_1)] [(.int (1 : Int32))])) t → P0 t := by
                    intro t kt
                    refine K127 t ?_
                    show Steps p.tables e below (T82.setTop (mkF m 125 #[.val (.ref r0), .val (.long q1), .second, .val (.long q2), .second, .val (.long q3), .second, .val (.int p4), .val (.int p5), .val (.int p6), .val (.int p7), .val (.ref b1), .val (.int j78_12_1)] [(.int (2 : Int32)), (.int j78_12_1)])) t
                    refine XS.icmpYes X84.here hx rfl (pc0 := 125) (pc' := 140) rfl (hb hby chk_d125) rfl (flt hc125_3).2.2.2 (by decide) (by decide) ?_
                    show Steps p.tables e below (T82.setTop (mkF m 140 #[.val (.ref r0), .val (.long q1), .second, .val (.long q2), .second, .val (.long q3), .second, .val (.int p4), .val (.int p5), .val (.int p6), .val (.int p7), .val (.ref b1), .val (.int j78_12_1)] [])) t
                    refine XS.iconst X84.here hx rfl (hb hby chk_d140) ?_
                    exact kt
                  exact ⟨_, _, _, _, (if_neg hc125_3).symm, (hb hby chk_d141), K132⟩
              subst hjx125_3
              exact ⟨_, _, _, _, (if_neg hc107_1).symm, hdx125, K133⟩
          subst hjx107_1
          exact ⟨_, _, _, _, (if_neg hc89).symm, hdx107, K134⟩
      subst hjx89
      exact ⟨_, _, _, _, (if_pos hc82).symm, hdx89, K135⟩
    · have K136 : ∀ t, Steps p.tables e below (T82.setTop (mkF m 86 #[.val (.ref r0), .val (.long q1), .second, .val (.long q2), .second, .val (.long q3), .second, .val (.int p4), .val (.int p5), .val (.int p6), .val (.int p7), .val (.ref b1), .val (.int j78_12_1)] [(.int (0 : Int32))])) t → P0 t := by
        intro t kt
        refine K92 t ?_
        show Steps p.tables e below (T82.setTop (mkF m 82 #[.val (.ref r0), .val (.long q1), .second, .val (.long q2), .second, .val (.long q3), .second, .val (.int p4), .val (.int p5), .val (.int p6), .val (.int p7), .val (.ref b1), .val (.int j78_12_1)] [(.int j78_12_1), (.int (Nat.toInt32 ng))])) t
        refine XS.icmpNo X84.here hx rfl (hb hby chk_d82) rfl (feq hc82).1 ?_
        show Steps p.tables e below (T82.setTop (mkF m 85 #[.val (.ref r0), .val (.long q1), .second, .val (.long q2), .second, .val (.long q3), .second, .val (.int p4), .val (.int p5), .val (.int p6), .val (.int p7), .val (.ref b1), .val (.int j78_12_1)] [])) t
        refine XS.iconst X84.here hx rfl (hb hby chk_d85) ?_
        exact kt
      exact ⟨_, _, _, _, (if_neg hc82).symm, (hb hby chk_d86), K136⟩
  obtain ⟨fs, hr, hrun, hended, hW, hsame⟩ := X84.leave (v := some (.int (nar .boolean jx82))) (fun h => by rw [Bd.returns] at h; cases h)
  refine ⟨_, _, ?_, hrun, hended, _, _, rfl, ?_, ⟨_, rfl⟩, hW, hsame.mono (by decide) (by decide)⟩
  · skip
    have q := K137 _ (retN X84 hx (t := .boolean) Bd.returns (by simp) hdx82 hr)
    rw [hP0] at q; exact q
  · show QK (.int (fChk q1 q2 q3 p4 p5 p6 p7 fg ng)) h0 n0 _ T82.heap _
    rw [e85]
    subst hf1
    subst hj31_12_1
    subst hjf31_1
    subst hj55_12_1
    subst hjf55_1
    subst hj78_12_1
    subst hjf78_1
    subst hjx82
    exact ⟨rfl, N86, Kp88⟩
def Lc (q h1 h2 : Int64) (e1 e2 e3 b : Int32) : List Int32 := (if h1 = q then (if e3 < b then [e3] else []) else []) ++ (if h2 = q then (if e2 < b then [e2] else []) else []) ++ (if h1 = q then (if e1 < b then [e1] else []) else [])
set_option maxHeartbeats 4000000 in
theorem own_chk (q h1 h2 : Int64) (e1 e2 e3 b : Int32) : fChk q h1 h2 e1 e2 e3 b (fun j => (Lc q h1 h2 e1 e2 e3 b).getD j 0) (Lc q h1 h2 e1 e2 e3 b).length = 1 := by
  have e0 : (0 : Int32).toNatClampNeg = 0 := by decide
  have e1' : (1 : Int32).toNatClampNeg = 1 := by decide
  have e2' : (2 : Int32).toNatClampNeg = 2 := by decide
  have s1 : (0 : Int32) + 1 = 1 := by decide
  have s2 : (1 : Int32) + 1 = 2 := by decide
  have s3 : (2 : Int32) + 1 = 3 := by decide
  have t0 : Nat.toInt32 0 = 0 := by decide
  have t1 : Nat.toInt32 1 = 1 := by decide
  have t2 : Nat.toInt32 2 = 2 := by decide
  have t3 : Nat.toInt32 3 = 3 := by decide
  have c00 : ¬ (0 : Int32) < 0 := by decide
  have c01 : (0 : Int32) < 1 := by decide
  have c02 : (0 : Int32) < 2 := by decide
  have c03 : (0 : Int32) < 3 := by decide
  have c10 : ¬ (1 : Int32) < 0 := by decide
  have c11 : ¬ (1 : Int32) < 1 := by decide
  have c12 : (1 : Int32) < 2 := by decide
  have c13 : (1 : Int32) < 3 := by decide
  have c20 : ¬ (2 : Int32) < 0 := by decide
  have c21 : ¬ (2 : Int32) < 1 := by decide
  have c22 : ¬ (2 : Int32) < 2 := by decide
  have c23 : (2 : Int32) < 3 := by decide
  have b1 : nar .boolean (1 : Int32) = 1 := by decide
  simp only [fChk, Lc]
  by_cases a : h1 = q <;> by_cases b' : h2 = q <;> by_cases c3 : e3 < b <;> by_cases c2 : e2 < b <;> by_cases c1 : e1 < b <;>
    simp [a, b', c3, c2, c1, e0, e1', e2', s1, s2, s3, t0, t1, t2, t3, c00, c01, c02, c03, c10, c11, c12, c13, c20, c21, c22, c23, b1, upd]
theorem own_E3 {fE1 fE2 fE3 : Nat → Int32} {p2 p3 p4 : Int32} (hfE1 : fE1 = (upd (fun _ => 0) 0 p2)) (hfE2 : fE2 = (upd fE1 1 p3)) (hfE3 : fE3 = (upd fE2 2 p4)) : fE3 0 = p2 ∧ fE3 1 = p3 ∧ fE3 2 = p4 := by
  rw [hfE3, hfE2, hfE1]; exact ⟨rfl, rfl, rfl⟩
theorem own_one : ¬ (1 : Int32) = 0 := by decide
section K
variable {q0 h2 h3 : Int64} {fE3 : Nat → Int32} {p2 p3 p4 p5 : Int32}
theorem own_cl1 (h : fE3 0 = p2 ∧ fE3 1 = p3 ∧ fE3 2 = p4) : coll fE3 p5 (es1 q0 h2) = Lc q0 q0 h2 p2 p3 p4 p5 := by
  obtain ⟨a0, a1, a2⟩ := h
  unfold es1 Lc
  by_cases e : h2 = q0
  · rw [if_pos e, if_pos rfl, if_pos e, if_pos rfl]; simp only [coll, a0, a1, a2]
    by_cases a : p4 < p5 <;> by_cases c : p3 < p5 <;> by_cases d : p2 < p5 <;> simp [a, c, d]
  · rw [if_neg e, if_pos rfl, if_neg e, if_pos rfl]; simp only [coll, a0, a1, a2]
    by_cases a : p4 < p5 <;> by_cases d : p2 < p5 <;> simp [a, d]
theorem own_cl2 (h : fE3 0 = p2 ∧ fE3 1 = p3 ∧ fE3 2 = p4) : coll fE3 p5 (es2 q0 h2) = Lc h2 q0 h2 p2 p3 p4 p5 := by
  obtain ⟨a0, a1, a2⟩ := h
  unfold es2 Lc
  by_cases e : h2 = q0
  · subst e
    rw [if_pos rfl, if_pos rfl, if_pos rfl, if_pos rfl]; simp only [coll, a0, a1, a2]
    by_cases a : p4 < p5 <;> by_cases c : p3 < p5 <;> by_cases d : p2 < p5 <;> simp [a, c, d]
  · have e' : ¬ q0 = h2 := fun q => e q.symm
    rw [if_neg e, if_neg e', if_pos rfl, if_neg e']; simp only [coll, a1]
    by_cases c : p3 < p5 <;> simp [c]
theorem own_cl3 (hh : h3 = (q0 ^^^ (1024 : Int64))) (h : fE3 0 = p2 ∧ fE3 1 = p3 ∧ fE3 2 = p4) : coll fE3 p5 (es3 q0 h2) = Lc h3 q0 h2 p2 p3 p4 p5 := by
  obtain ⟨a0, a1, a2⟩ := h
  have ne : ¬ q0 = h3 := by rw [hh]; exact fun q => own_xne q0 q.symm
  unfold es3 Lc
  rw [if_neg ne, if_neg ne]
  by_cases e : h2 = q0 ^^^ (1024 : Int64)
  · have e' : h2 = h3 := by rw [hh]; exact e
    rw [if_pos e, if_pos e']; simp only [coll, a1]
    by_cases c : p3 < p5 <;> simp [c]
  · have e' : ¬ h2 = h3 := by rw [hh]; exact e
    rw [if_neg e, if_neg e']; rfl
theorem own_k1 (h : fE3 0 = p2 ∧ fE3 1 = p3 ∧ fE3 2 = p4) : ¬ (fChk q0 q0 h2 p2 p3 p4 p5 (fun j => (coll fE3 p5 (es1 q0 h2)).getD j 0) (coll fE3 p5 (es1 q0 h2)).length) = (0 : Int32) := by
  rw [own_cl1 h, own_chk]; exact own_one
theorem own_k2 (h : fE3 0 = p2 ∧ fE3 1 = p3 ∧ fE3 2 = p4) : ¬ (fChk h2 q0 h2 p2 p3 p4 p5 (fun j => (coll fE3 p5 (es2 q0 h2)).getD j 0) (coll fE3 p5 (es2 q0 h2)).length) = (0 : Int32) := by
  rw [own_cl2 h, own_chk]; exact own_one
theorem own_k3 (hh : h3 = (q0 ^^^ (1024 : Int64))) (h : fE3 0 = p2 ∧ fE3 1 = p3 ∧ fE3 2 = p4) : ¬ (fChk h3 q0 h2 p2 p3 p4 p5 (fun j => (coll fE3 p5 (es3 q0 h2)).getD j 0) (coll fE3 p5 (es3 q0 h2)).length) = (0 : Int32) := by
  rw [own_cl3 hh h, own_chk]; exact own_one
end K
theorem law_pn : plainName "com/example/auditspur/auditspur/core/store/PostingsEventsPinLaw" = true := by first | (simp [plainName, overriddenIn]; done) | decide +kernel
theorem law_pd0 : parseMethodDescriptor "()V" = some ⟨[], none⟩ := by decide +kernel
theorem law_pd1 : parseMethodDescriptor "(JI)V" = some ⟨[.long, .int], none⟩ := by decide +kernel
theorem law_pd2 : parseMethodDescriptor "(JI)[I" = some ⟨[.long, .int], some (.array .int)⟩ := by decide +kernel
theorem law_pd3 : parseMethodDescriptor "([IJJJIIII)Z" = some ⟨[(.array .int), .long, .long, .long, .int, .int, .int, .int], some .boolean⟩ := by decide +kernel
theorem law_ef (m : MethodId) (x0 : Int64) (x1 : Int64) (x2 : Int32) (x3 : Int32) (x4 : Int32) (x5 : Int32) : entryFrame m #[(.long x0), (.long x1), (.int x2), (.int x3), (.int x4), (.int x5)] maxLocals = mkF m 0 #[.val (.long x0), .second, .val (.long x1), .second, .val (.int x2), .val (.int x3), .val (.int x4), .val (.int x5), .unset, .unset, .unset, .unset, .unset, .unset, .unset, .unset, .unset] [] := by first | (simp [entryFrame, mkF, argsToLocals, Value.category, maxLocals]; done) | rfl
set_option maxRecDepth 65536 in
set_option maxHeartbeats 40000000 in
theorem rm_law (l : Launch) (Z : State) (a0 : Array Value) (hw : ∀ d ∈ tables_1, d.before a0 Z = true) (ws : List Jvm.Cond) (q0 : Int64) (q1 : Int64) (p2 : Int32) (p3 : Int32) (p4 : Int32) (p5 : Int32) (h0 : Heap) (n0 : Nat) (Z0 : n0 ≤ h0.size) :
    MetFree l x (head1 (Jvm.Cond.code x code maxLocals ret :: ws) room_1) (fun a U => a = #[(.long q0), (.long q1), (.int p2), (.int p3), (.int p4), (.int p5)] ∧ Z.Warmed39 U.vm ∧ U.heap = h0) (fun _ _ _ _ _ => True) (fun _ U o U' => ∃ v L, o = .returned v ∧ QL n0 v U'.heap L ∧ FrameEnd U o U' L room_1.cells room_1.slots) := by
  refine MetFree.of_bodySF (plainFor_of_name law_pn) hisR ?_
  intro p e s m args below meth c s₁ Bd hml0 hP hK
  obtain ⟨rfl, hZ, hh⟩ := hP
  have hx := Bd.exec
  have hby := Bd.bytes
  have hml : c.maxLocals = 17 := hml0
  have hown : s.vm.findClass "com/example/auditspur/auditspur/core/store/PostingsEventsPinLaw" = some m.cls := findClass_of_methodNamed Bd.named
  have hnm := (name_of_methodNamed Bd.named Bd.method).1
  have X0 : Stand p l e room_1 s m #[(.long q0), (.long q1), (.int p2), (.int p3), (.int p4), (.int p5)] below meth c s₁ [] 0 0 := Stand.of_body Bd
  have e0 : s₁.heap = h0 := by rw [← hh, Bd.state]; rfl
  have N0 := Fr.nil n0
  obtain ⟨P0, hP0⟩ : ∃ P0 : State → Prop, P0 = fun t => Steps p.tables e below (s₁.setTop (entryFrame m #[(.long q0), (.long q1), (.int p2), (.int p3), (.int p4), (.int p5)] maxLocals)) t := ⟨_, rfl⟩
  have K0 : ∀ t, Steps p.tables e below (s₁.setTop (mkF m 0 #[.val (.long q0), .second, .val (.long q1), .second, .val (.int p2), .val (.int p3), .val (.int p4), .val (.int p5), .unset, .unset, .unset, .unset, .unset, .unset, .unset, .unset, .unset] [])) t → P0 t := by
    intro t k; rw [hP0]; exact castTop (law_ef m q0 q1 p2 p3 p4 p5) k
  have K1 : ∀ t, Steps p.tables e below (s₁.setTop (mkF m 8 #[.val (.long q0), .second, .val (.long q1), .second, .val (.int p2), .val (.int p3), .val (.int p4), .val (.int p5), .val (.int ((q1 &&& (3 : Int64)).toInt32)), .unset, .unset, .unset, .unset, .unset, .unset, .unset, .unset] [])) t → P0 t := by
    intro t kt
    refine K0 t ?_
    show Steps p.tables e below (s₁.setTop (mkF m 0 #[.val (.long q0), .second, .val (.long q1), .second, .val (.int p2), .val (.int p3), .val (.int p4), .val (.int p5), .unset, .unset, .unset, .unset, .unset, .unset, .unset, .unset, .unset] [])) t
    refine XS.lloadN X0.here hx rfl (hb hby at_0) rfl ?_
    show Steps p.tables e below (s₁.setTop (mkF m 1 #[.val (.long q0), .second, .val (.long q1), .second, .val (.int p2), .val (.int p3), .val (.int p4), .val (.int p5), .unset, .unset, .unset, .unset, .unset, .unset, .unset, .unset, .unset] [(.long q1)])) t
    refine X0.ldc2Long hx hown (mvT hZ (hw _ (List.mem_of_getElem? (i := 0) rfl))) (g := (mkF m 1 #[.val (.long q0), .second, .val (.long q1), .second, .val (.int p2), .val (.int p3), .val (.int p4), .val (.int p5), .unset, .unset, .unset, .unset, .unset, .unset, .unset, .unset, .unset] [(.long q1)])) rfl (hb hby at_1) _ ?_
    show Steps p.tables e below (s₁.setTop (mkF m 4 #[.val (.long q0), .second, .val (.long q1), .second, .val (.int p2), .val (.int p3), .val (.int p4), .val (.int p5), .unset, .unset, .unset, .unset, .unset, .unset, .unset, .unset, .unset] [(.long (3 : Int64)), (.long q1)])) t
    refine XS.land X0.here hx rfl (hb hby at_4) rfl ?_
    show Steps p.tables e below (s₁.setTop (mkF m 5 #[.val (.long q0), .second, .val (.long q1), .second, .val (.int p2), .val (.int p3), .val (.int p4), .val (.int p5), .unset, .unset, .unset, .unset, .unset, .unset, .unset, .unset, .unset] [(.long (q1 &&& (3 : Int64)))])) t
    refine XS.l2i X0.here hx rfl (hb hby at_5) rfl ?_
    show Steps p.tables e below (s₁.setTop (mkF m 6 #[.val (.long q0), .second, .val (.long q1), .second, .val (.int p2), .val (.int p3), .val (.int p4), .val (.int p5), .unset, .unset, .unset, .unset, .unset, .unset, .unset, .unset, .unset] [(.int ((q1 &&& (3 : Int64)).toInt32))])) t
    refine XS.istore X0.here hx rfl (hb hby at_6) rfl (l' := #[.val (.long q0), .second, .val (.long q1), .second, .val (.int p2), .val (.int p3), .val (.int p4), .val (.int p5), .val (.int ((q1 &&& (3 : Int64)).toInt32)), .unset, .unset, .unset, .unset, .unset, .unset, .unset, .unset]) rfl ?_
    exact kt
  obtain ⟨v6, hv6, K2⟩ : ∃ v6 : Int32, v6 = ((q1 &&& (3 : Int64)).toInt32) ∧ ∀ t, Steps p.tables e below (s₁.setTop (mkF m 8 #[.val (.long q0), .second, .val (.long q1), .second, .val (.int p2), .val (.int p3), .val (.int p4), .val (.int p5), .val (.int v6), .unset, .unset, .unset, .unset, .unset, .unset, .unset, .unset] [])) t → P0 t := ⟨_, rfl, K1⟩
  have K3 : ∀ t, Steps p.tables e below (s₁.setTop (mkF m 10 #[.val (.long q0), .second, .val (.long q1), .second, .val (.int p2), .val (.int p3), .val (.int p4), .val (.int p5), .val (.int v6), .unset, .unset, .unset, .unset, .unset, .unset, .unset, .unset] [(.int v6)])) t → P0 t := by
    intro t kt
    refine K2 t ?_
    show Steps p.tables e below (s₁.setTop (mkF m 8 #[.val (.long q0), .second, .val (.long q1), .second, .val (.int p2), .val (.int p3), .val (.int p4), .val (.int p5), .val (.int v6), .unset, .unset, .unset, .unset, .unset, .unset, .unset, .unset] [])) t
    refine XS.iload X0.here hx rfl (hb hby at_8) rfl ?_
    exact kt
  obtain ⟨j41_9_1, hj41_9_1, K11⟩ : ∃ (j41_9_1 : Int64), j41_9_1 = (if v6 = (0 : Int32) then q0 else (if v6 = (1 : Int32) then (q0 + ((q1 ||| (1 : Int64)) <<< ((10 : Int32) &&& 0x3f).toInt64)) else q1)) ∧ ∀ t, Steps p.tables e below (s₁.setTop (mkF m 41 #[.val (.long q0), .second, .val (.long q1), .second, .val (.int p2), .val (.int p3), .val (.int p4), .val (.int p5), .val (.int v6), .val (.long j41_9_1), .second, .unset, .unset, .unset, .unset, .unset, .unset] [])) t → P0 t := by
    by_cases hc10 : v6 = (0 : Int32)
    · have K4 : ∀ t, Steps p.tables e below (s₁.setTop (mkF m 41 #[.val (.long q0), .second, .val (.long q1), .second, .val (.int p2), .val (.int p3), .val (.int p4), .val (.int p5), .val (.int v6), .val (.long q0), .second, .unset, .unset, .unset, .unset, .unset, .unset] [])) t → P0 t := by
        intro t kt
        refine K3 t ?_
        show Steps p.tables e below (s₁.setTop (mkF m 10 #[.val (.long q0), .second, .val (.long q1), .second, .val (.int p2), .val (.int p3), .val (.int p4), .val (.int p5), .val (.int v6), .unset, .unset, .unset, .unset, .unset, .unset, .unset, .unset] [(.int v6)])) t
        refine XS.ifNo X0.here hx rfl (hb hby at_10) rfl ((if0 _ _).trans (teq hc10).2) ?_
        show Steps p.tables e below (s₁.setTop (mkF m 13 #[.val (.long q0), .second, .val (.long q1), .second, .val (.int p2), .val (.int p3), .val (.int p4), .val (.int p5), .val (.int v6), .unset, .unset, .unset, .unset, .unset, .unset, .unset, .unset] [])) t
        refine XS.lloadN X0.here hx rfl (hb hby at_13) rfl ?_
        show Steps p.tables e below (s₁.setTop (mkF m 14 #[.val (.long q0), .second, .val (.long q1), .second, .val (.int p2), .val (.int p3), .val (.int p4), .val (.int p5), .val (.int v6), .unset, .unset, .unset, .unset, .unset, .unset, .unset, .unset] [(.long q0)])) t
        refine XS.lstore X0.here hx rfl (hb hby at_14) rfl (l' := #[.val (.long q0), .second, .val (.long q1), .second, .val (.int p2), .val (.int p3), .val (.int p4), .val (.int p5), .val (.int v6), .val (.long q0), .second, .unset, .unset, .unset, .unset, .unset, .unset]) rfl ?_
        show Steps p.tables e below (s₁.setTop (mkF m 16 #[.val (.long q0), .second, .val (.long q1), .second, .val (.int p2), .val (.int p3), .val (.int p4), .val (.int p5), .val (.int v6), .val (.long q0), .second, .unset, .unset, .unset, .unset, .unset, .unset] [])) t
        refine XS.goto X0.here hx rfl (pc0 := 16) (pc' := 41) rfl (hb hby at_16) (by decide) (by decide) ?_
        exact kt
      exact ⟨_, (if_pos hc10).symm, K4⟩
    · have K5 : ∀ t, Steps p.tables e below (s₁.setTop (mkF m 22 #[.val (.long q0), .second, .val (.long q1), .second, .val (.int p2), .val (.int p3), .val (.int p4), .val (.int p5), .val (.int v6), .unset, .unset, .unset, .unset, .unset, .unset, .unset, .unset] [(.int (1 : Int32)), (.int v6)])) t → P0 t := by
        intro t kt
        refine K3 t ?_
        show Steps p.tables e below (s₁.setTop (mkF m 10 #[.val (.long q0), .second, .val (.long q1), .second, .val (.int p2), .val (.int p3), .val (.int p4), .val (.int p5), .val (.int v6), .unset, .unset, .unset, .unset, .unset, .unset, .unset, .unset] [(.int v6)])) t
        refine XS.ifYes X0.here hx rfl (pc0 := 10) (pc' := 19) rfl (hb hby at_10) rfl ((if0 _ _).trans (feq hc10).2) (by decide) (by decide) ?_
        show Steps p.tables e below (s₁.setTop (mkF m 19 #[.val (.long q0), .second, .val (.long q1), .second, .val (.int p2), .val (.int p3), .val (.int p4), .val (.int p5), .val (.int v6), .unset, .unset, .unset, .unset, .unset, .unset, .unset, .unset] [])) t
        refine XS.iload X0.here hx rfl (hb hby at_19) rfl ?_
        show Steps p.tables e below (s₁.setTop (mkF m 21 #[.val (.long q0), .second, .val (.long q1), .second, .val (.int p2), .val (.int p3), .val (.int p4), .val (.int p5), .val (.int v6), .unset, .unset, .unset, .unset, .unset, .unset, .unset, .unset] [(.int v6)])) t
        refine XS.iconst X0.here hx rfl (hb hby at_21) ?_
        exact kt
      obtain ⟨j41_9, hj41_9, K10⟩ : ∃ (j41_9 : Int64), j41_9 = (if v6 = (1 : Int32) then (q0 + ((q1 ||| (1 : Int64)) <<< ((10 : Int32) &&& 0x3f).toInt64)) else q1) ∧ ∀ t, Steps p.tables e below (s₁.setTop (mkF m 41 #[.val (.long q0), .second, .val (.long q1), .second, .val (.int p2), .val (.int p3), .val (.int p4), .val (.int p5), .val (.int v6), .val (.long j41_9), .second, .unset, .unset, .unset, .unset, .unset, .unset] [])) t → P0 t := by
        by_cases hc22 : v6 = (1 : Int32)
        · have K6 : ∀ t, Steps p.tables e below (s₁.setTop (mkF m 35 #[.val (.long q0), .second, .val (.long q1), .second, .val (.int p2), .val (.int p3), .val (.int p4), .val (.int p5), .val (.int v6), .val (.long (q0 + ((q1 ||| (1 : Int64)) <<< ((10 : Int32) &&& 0x3f).toInt64))), .second, .unset, .unset, .unset, .unset, .unset, .unset] [])) t → P0 t := by
            intro t kt
            refine K5 t ?_
            show Steps p.tables e below (s₁.setTop (mkF m 22 #[.val (.long q0), .second, .val (.long q1), .second, .val (.int p2), .val (.int p3), .val (.int p4), .val (.int p5), .val (.int v6), .unset, .unset, .unset, .unset, .unset, .unset, .unset, .unset] [(.int (1 : Int32)), (.int v6)])) t
            refine XS.icmpNo X0.here hx rfl (hb hby at_22) rfl (teq hc22).2 ?_
            show Steps p.tables e below (s₁.setTop (mkF m 25 #[.val (.long q0), .second, .val (.long q1), .second, .val (.int p2), .val (.int p3), .val (.int p4), .val (.int p5), .val (.int v6), .unset, .unset, .unset, .unset, .unset, .unset, .unset, .unset] [])) t
            refine XS.lloadN X0.here hx rfl (hb hby at_25) rfl ?_
            show Steps p.tables e below (s₁.setTop (mkF m 26 #[.val (.long q0), .second, .val (.long q1), .second, .val (.int p2), .val (.int p3), .val (.int p4), .val (.int p5), .val (.int v6), .unset, .unset, .unset, .unset, .unset, .unset, .unset, .unset] [(.long q0)])) t
            refine XS.lloadN X0.here hx rfl (hb hby at_26) rfl ?_
            show Steps p.tables e below (s₁.setTop (mkF m 27 #[.val (.long q0), .second, .val (.long q1), .second, .val (.int p2), .val (.int p3), .val (.int p4), .val (.int p5), .val (.int v6), .unset, .unset, .unset, .unset, .unset, .unset, .unset, .unset] [(.long q1), (.long q0)])) t
            refine XS.lconst X0.here hx rfl (hb hby at_27) ?_
            show Steps p.tables e below (s₁.setTop (mkF m 28 #[.val (.long q0), .second, .val (.long q1), .second, .val (.int p2), .val (.int p3), .val (.int p4), .val (.int p5), .val (.int v6), .unset, .unset, .unset, .unset, .unset, .unset, .unset, .unset] [(.long (1 : Int64)), (.long q1), (.long q0)])) t
            refine XS.lor X0.here hx rfl (hb hby at_28) rfl ?_
            show Steps p.tables e below (s₁.setTop (mkF m 29 #[.val (.long q0), .second, .val (.long q1), .second, .val (.int p2), .val (.int p3), .val (.int p4), .val (.int p5), .val (.int v6), .unset, .unset, .unset, .unset, .unset, .unset, .unset, .unset] [(.long (q1 ||| (1 : Int64))), (.long q0)])) t
            refine XS.bipush X0.here hx rfl (hb hby at_29) ?_
            show Steps p.tables e below (s₁.setTop (mkF m 31 #[.val (.long q0), .second, .val (.long q1), .second, .val (.int p2), .val (.int p3), .val (.int p4), .val (.int p5), .val (.int v6), .unset, .unset, .unset, .unset, .unset, .unset, .unset, .unset] [(.int (10 : Int32)), (.long (q1 ||| (1 : Int64))), (.long q0)])) t
            refine XS.lshl X0.here hx rfl (hb hby at_31) rfl ?_
            show Steps p.tables e below (s₁.setTop (mkF m 32 #[.val (.long q0), .second, .val (.long q1), .second, .val (.int p2), .val (.int p3), .val (.int p4), .val (.int p5), .val (.int v6), .unset, .unset, .unset, .unset, .unset, .unset, .unset, .unset] [(.long ((q1 ||| (1 : Int64)) <<< ((10 : Int32) &&& 0x3f).toInt64)), (.long q0)])) t
            refine XS.ladd X0.here hx rfl (hb hby at_32) rfl ?_
            show Steps p.tables e below (s₁.setTop (mkF m 33 #[.val (.long q0), .second, .val (.long q1), .second, .val (.int p2), .val (.int p3), .val (.int p4), .val (.int p5), .val (.int v6), .unset, .unset, .unset, .unset, .unset, .unset, .unset, .unset] [(.long (q0 + ((q1 ||| (1 : Int64)) <<< ((10 : Int32) &&& 0x3f).toInt64)))])) t
            refine XS.lstore X0.here hx rfl (hb hby at_33) rfl (l' := #[.val (.long q0), .second, .val (.long q1), .second, .val (.int p2), .val (.int p3), .val (.int p4), .val (.int p5), .val (.int v6), .val (.long (q0 + ((q1 ||| (1 : Int64)) <<< ((10 : Int32) &&& 0x3f).toInt64))), .second, .unset, .unset, .unset, .unset, .unset, .unset]) rfl ?_
            exact kt
          obtain ⟨v33, hv33, K7⟩ : ∃ v33 : Int64, v33 = (q0 + ((q1 ||| (1 : Int64)) <<< ((10 : Int32) &&& 0x3f).toInt64)) ∧ ∀ t, Steps p.tables e below (s₁.setTop (mkF m 35 #[.val (.long q0), .second, .val (.long q1), .second, .val (.int p2), .val (.int p3), .val (.int p4), .val (.int p5), .val (.int v6), .val (.long v33), .second, .unset, .unset, .unset, .unset, .unset, .unset] [])) t → P0 t := ⟨_, rfl, K6⟩
          have K8 : ∀ t, Steps p.tables e below (s₁.setTop (mkF m 41 #[.val (.long q0), .second, .val (.long q1), .second, .val (.int p2), .val (.int p3), .val (.int p4), .val (.int p5), .val (.int v6), .val (.long v33), .second, .unset, .unset, .unset, .unset, .unset, .unset] [])) t → P0 t := by
            intro t kt
            refine K7 t ?_
            show Steps p.tables e below (s₁.setTop (mkF m 35 #[.val (.long q0), .second, .val (.long q1), .second, .val (.int p2), .val (.int p3), .val (.int p4), .val (.int p5), .val (.int v6), .val (.long v33), .second, .unset, .unset, .unset, .unset, .unset, .unset] [])) t
            refine XS.goto X0.here hx rfl (pc0 := 35) (pc' := 41) rfl (hb hby at_35) (by decide) (by decide) ?_
            exact kt
          subst hv33
          exact ⟨_, (if_pos hc22).symm, K8⟩
        · have K9 : ∀ t, Steps p.tables e below (s₁.setTop (mkF m 41 #[.val (.long q0), .second, .val (.long q1), .second, .val (.int p2), .val (.int p3), .val (.int p4), .val (.int p5), .val (.int v6), .val (.long q1), .second, .unset, .unset, .unset, .unset, .unset, .unset] [])) t → P0 t := by
            intro t kt
            refine K5 t ?_
            show Steps p.tables e below (s₁.setTop (mkF m 22 #[.val (.long q0), .second, .val (.long q1), .second, .val (.int p2), .val (.int p3), .val (.int p4), .val (.int p5), .val (.int v6), .unset, .unset, .unset, .unset, .unset, .unset, .unset, .unset] [(.int (1 : Int32)), (.int v6)])) t
            refine XS.icmpYes X0.here hx rfl (pc0 := 22) (pc' := 38) rfl (hb hby at_22) rfl (feq hc22).2 (by decide) (by decide) ?_
            show Steps p.tables e below (s₁.setTop (mkF m 38 #[.val (.long q0), .second, .val (.long q1), .second, .val (.int p2), .val (.int p3), .val (.int p4), .val (.int p5), .val (.int v6), .unset, .unset, .unset, .unset, .unset, .unset, .unset, .unset] [])) t
            refine XS.lloadN X0.here hx rfl (hb hby at_38) rfl ?_
            show Steps p.tables e below (s₁.setTop (mkF m 39 #[.val (.long q0), .second, .val (.long q1), .second, .val (.int p2), .val (.int p3), .val (.int p4), .val (.int p5), .val (.int v6), .unset, .unset, .unset, .unset, .unset, .unset, .unset, .unset] [(.long q1)])) t
            refine XS.lstore X0.here hx rfl (hb hby at_39) rfl (l' := #[.val (.long q0), .second, .val (.long q1), .second, .val (.int p2), .val (.int p3), .val (.int p4), .val (.int p5), .val (.int v6), .val (.long q1), .second, .unset, .unset, .unset, .unset, .unset, .unset]) rfl ?_
            exact kt
          exact ⟨_, (if_neg hc22).symm, K9⟩
      subst hj41_9
      exact ⟨_, (if_neg hc10).symm, K10⟩
  have K12 : ∀ t, Steps p.tables e below (s₁.setTop (mkF m 48 #[.val (.long q0), .second, .val (.long q1), .second, .val (.int p2), .val (.int p3), .val (.int p4), .val (.int p5), .val (.int v6), .val (.long j41_9_1), .second, .val (.long (q0 ^^^ (1024 : Int64))), .second, .unset, .unset, .unset, .unset] [])) t → P0 t := by
    intro t kt
    refine K11 t ?_
    show Steps p.tables e below (s₁.setTop (mkF m 41 #[.val (.long q0), .second, .val (.long q1), .second, .val (.int p2), .val (.int p3), .val (.int p4), .val (.int p5), .val (.int v6), .val (.long j41_9_1), .second, .unset, .unset, .unset, .unset, .unset, .unset] [])) t
    refine XS.lloadN X0.here hx rfl (hb hby at_41) rfl ?_
    show Steps p.tables e below (s₁.setTop (mkF m 42 #[.val (.long q0), .second, .val (.long q1), .second, .val (.int p2), .val (.int p3), .val (.int p4), .val (.int p5), .val (.int v6), .val (.long j41_9_1), .second, .unset, .unset, .unset, .unset, .unset, .unset] [(.long q0)])) t
    refine X0.ldc2Long hx hown (mvT hZ (hw _ (List.mem_of_getElem? (i := 1) rfl))) (g := (mkF m 42 #[.val (.long q0), .second, .val (.long q1), .second, .val (.int p2), .val (.int p3), .val (.int p4), .val (.int p5), .val (.int v6), .val (.long j41_9_1), .second, .unset, .unset, .unset, .unset, .unset, .unset] [(.long q0)])) rfl (hb hby at_42) _ ?_
    show Steps p.tables e below (s₁.setTop (mkF m 45 #[.val (.long q0), .second, .val (.long q1), .second, .val (.int p2), .val (.int p3), .val (.int p4), .val (.int p5), .val (.int v6), .val (.long j41_9_1), .second, .unset, .unset, .unset, .unset, .unset, .unset] [(.long (1024 : Int64)), (.long q0)])) t
    refine XS.lxor X0.here hx rfl (hb hby at_45) rfl ?_
    show Steps p.tables e below (s₁.setTop (mkF m 46 #[.val (.long q0), .second, .val (.long q1), .second, .val (.int p2), .val (.int p3), .val (.int p4), .val (.int p5), .val (.int v6), .val (.long j41_9_1), .second, .unset, .unset, .unset, .unset, .unset, .unset] [(.long (q0 ^^^ (1024 : Int64)))])) t
    refine XS.lstore X0.here hx rfl (hb hby at_46) rfl (l' := #[.val (.long q0), .second, .val (.long q1), .second, .val (.int p2), .val (.int p3), .val (.int p4), .val (.int p5), .val (.int v6), .val (.long j41_9_1), .second, .val (.long (q0 ^^^ (1024 : Int64))), .second, .unset, .unset, .unset, .unset]) rfl ?_
    exact kt
  obtain ⟨v46, hv46, K13⟩ : ∃ v46 : Int64, v46 = (q0 ^^^ (1024 : Int64)) ∧ ∀ t, Steps p.tables e below (s₁.setTop (mkF m 48 #[.val (.long q0), .second, .val (.long q1), .second, .val (.int p2), .val (.int p3), .val (.int p4), .val (.int p5), .val (.int v6), .val (.long j41_9_1), .second, .val (.long v46), .second, .unset, .unset, .unset, .unset] [])) t → P0 t := ⟨_, rfl, K12⟩
  obtain ⟨T14, h14, X14, e14, E14, A14, D14, -, st14⟩ := newO X0 hx hZ hown (hw _ (List.mem_of_getElem? (i := 2) rfl)) (hw _ (List.mem_of_getElem? (i := 3) rfl)) (hw _ (List.mem_of_getElem? (i := 4) rfl)) e0 (g := (mkF m 48 #[.val (.long q0), .second, .val (.long q1), .second, .val (.int p2), .val (.int p3), .val (.int p4), .val (.int p5), .val (.int v6), .val (.long j41_9_1), .second, .val (.long v46), .second, .unset, .unset, .unset, .unset] [])) rfl (hb hby at_48) (by decide) (by decide)
  obtain ⟨b48, g14⟩ : ∃ z, z = h0.size := ⟨_, rfl⟩
  have g_b48 : n0 ≤ b48 := Nat.le_trans Z0 (Nat.le_of_eq g14.symm)
  rw [← g14] at A14 D14 st14
  have Z14 : n0 ≤ h14.size := Nat.le_trans Z0 E14.1
  have F15 : Fld Z h14 b48 "com/example/auditspur/auditspur/core/store/Postings" "hashes" "[J" .null := D14 (Or.inl (hw _ (List.mem_of_getElem? (i := 13) rfl))) (ty := (.array .long)) (by decide)
  have F16 : Fld Z h14 b48 "com/example/auditspur/auditspur/core/store/Postings" "heads" "[I" .null := D14 (Or.inl (hw _ (List.mem_of_getElem? (i := 16) rfl))) (ty := (.array .int)) (by decide)
  have F17 : Fld Z h14 b48 "com/example/auditspur/auditspur/core/store/Postings" "events" "[I" .null := D14 (Or.inl (hw _ (List.mem_of_getElem? (i := 18) rfl))) (ty := (.array .int)) (by decide)
  have F18 : Fld Z h14 b48 "com/example/auditspur/auditspur/core/store/Postings" "next" "[I" .null := D14 (Or.inl (hw _ (List.mem_of_getElem? (i := 20) rfl))) (ty := (.array .int)) (by decide)
  have F19 : Fld Z h14 b48 "com/example/auditspur/auditspur/core/store/Postings" "postings" "I" (.int (0 : Int32)) := D14 (Or.inl (hw _ (List.mem_of_getElem? (i := 27) rfl))) (ty := .int) (by decide)
  have F20 : Fld Z h14 b48 "com/example/auditspur/auditspur/core/store/Postings" "codes" "I" (.int (0 : Int32)) := D14 (Or.inl (hw _ (List.mem_of_getElem? (i := 33) rfl))) (ty := .int) (by decide)
  obtain ⟨_, _, ⟨T21, L21, k21, n21⟩, -, X21, ⟨Lc21, hQ21, l21, y21, z21⟩, st21⟩ := X14.specialBack hx (y := (⟨"com/example/auditspur/auditspur/core/store/Postings", "<init>", "()V"⟩ : MethodName)) rfl hown (mvT hZ (hw _ (List.mem_of_getElem? (i := 5) rfl))) (mvT hZ (hw _ (List.mem_of_getElem? (i := 6) rfl))) (mvT hZ (hw _ (List.mem_of_getElem? (i := 7) rfl))) (by decide) (backOf (W := 1) (rm_ini l Z a0 hw [] b48 _ _ _ _ h14 n0 Z14 A14 F15 F16 F17 F18 F20 F19 g_b48) hZ (hw _ (List.mem_of_getElem? (i := 7) rfl)) (hw _ (List.mem_of_getElem? (i := 4) rfl)) (by decide) (by decide)) (g := (mkF m 52 #[.val (.long q0), .second, .val (.long q1), .second, .val (.int p2), .val (.int p3), .val (.int p4), .val (.int p5), .val (.int v6), .val (.long j41_9_1), .second, .val (.long v46), .second, .unset, .unset, .unset, .unset] [(.ref b48), (.ref b48)])) rfl (by rw [hml]; rfl) (Steps.refl _) (a := b48) (argsL := []) (rest := [(.ref b48)]) (lenOf law_pd0 rfl) rfl (by show 2 * 0 + _ ≤ _; exact Nat.le_of_eq rfl) (hb hby at_52) (fun _ _ => ⟨rfl, e14, (by decide : 1 + 4 ≤ _), (by decide : 6 + 4096 ≤ _)⟩)
  dsimp only [Pt.U, Pt.locs, Pt.cells, Pt.slots] at X21 l21 y21 z21 st21 hQ21
  rw [l21, y21, z21] at X21
  obtain ⟨h21, e21⟩ : ∃ z, T21.heap = z := ⟨_, rfl⟩
  rw [e21] at hQ21
  obtain ⟨cH, cD, cE, cN, rfl, N21q, Kq21, Ex, Ff0, Ff1, Ff2, Ff3, Va0, Va1, Va2, Va3, Fc, Fp, gscH, gscD, gscE, gscN, nrcH, nrcD, nrcE, nrcN, ncHcD, ncHcE, ncHcN, ncDcE, ncDcN, ncEcN⟩ := hQ21
  have N21 := Fr.app N0 N21q
  have g_cH : n0 ≤ cH := Nat.le_trans Z14 gscH
  have g_cD : n0 ≤ cD := Nat.le_trans Z14 gscD
  have g_cE : n0 ≤ cE := Nat.le_trans Z14 gscE
  have g_cN : n0 ≤ cN := Nat.le_trans Z14 gscN
  have Z21 : n0 ≤ h21.size := Nat.le_trans Z14 Kq21.1
  obtain ⟨cq22, kq22, q22a, q22b, q22c⟩ := isOf hZ e21 Ex
  obtain ⟨_, _, ⟨T22, L22, k22, n22⟩, -, X22, ⟨Lc22, hQ22, l22, y22, z22⟩, st22⟩ := X21.virtualBack hx (y := (⟨"com/example/auditspur/auditspur/core/store/Postings", "add", "(JI)V"⟩ : MethodName)) (z := (⟨"com/example/auditspur/auditspur/core/store/Postings", "add", "(JI)V"⟩ : MethodName)) hown (mvT hZ (hw _ (List.mem_of_getElem? (i := 21) rfl))) (mvT hZ (hw _ (List.mem_of_getElem? (i := 22) rfl))) (notFace_of_selects (args := #[]) (mvT hZ (hw _ (List.mem_of_getElem? (i := 24) rfl)))) (mvT hZ (hw _ (List.mem_of_getElem? (i := 24) rfl))) (mvT hZ (hw _ (List.mem_of_getElem? (i := 23) rfl))) (by decide) (backOf (W := 0) (rm_add l Z a0 hw [] b48 q0 p2 cH cD cE cN (fun _ => 0) (fun _ => 0) (fun _ => 0) (fun _ => 0) (0 : Int32) (0 : Int32) 0 0 (idx q0) h21 n0 Z21 Ex Ff0 Ff1 Ff2 Ff3 Va0 Va1 Va2 Va3 Fc Fp nrcH nrcD nrcE nrcN ncHcD ncHcE ncHcN ncDcE ncDcN ncEcN g_b48 g_cH g_cD g_cE g_cN rfl (by decide) (by decide) (own_s1 q0)) hZ (hw _ (List.mem_of_getElem? (i := 25) rfl)) (hw _ (List.mem_of_getElem? (i := 4) rfl)) (by decide) (by decide)) q22a q22c (g := (mkF m 62 #[.val (.long q0), .second, .val (.long q1), .second, .val (.int p2), .val (.int p3), .val (.int p4), .val (.int p5), .val (.int v6), .val (.long j41_9_1), .second, .val (.long v46), .second, .val (.ref b48), .unset, .unset, .unset] [(.int p2), (.long q0), (.ref b48)])) rfl (by rw [hml]; rfl) (Steps.refl _) (argsL := [(.long q0), (.int p2)]) (rest := []) (lenOf law_pd1 rfl) rfl (by show 2 * 0 + _ ≤ _; exact Nat.le_of_eq rfl) (hb hby at_62) (fun _ _ => ⟨rfl, e21, (by decide : 5 + 0 ≤ _), (by decide : 4102 + 0 ≤ _)⟩)
  dsimp only [Pt.U, Pt.locs, Pt.cells, Pt.slots] at X22 l22 y22 z22 st22 hQ22
  rw [l22, y22, z22] at X22
  obtain ⟨h22, e22⟩ : ∃ z, T22.heap = z := ⟨_, rfl⟩
  rw [e22] at hQ22
  obtain ⟨rfl, N22q, Kq22, A1_0, A1_1, A1_2, A1_3, A1_4, A1_5, A1_6, A1_7, A1_8, A1_9, A1_10⟩ := hQ22
  have N22 := Fr.app N21 N22q
  have Z22 : n0 ≤ h22.size := Nat.le_trans Z21 Kq22.1
  obtain ⟨fH1, hfH1, A1_5'⟩ : ∃ fH1 : Nat → Int64, fH1 = (if (fun _ => 0) (idx q0) = 0 then updJ (fun _ => 0) (idx q0) q0 else (fun _ => 0)) ∧ JA Z h22 cH 1024 fH1 := ⟨_, rfl, A1_5⟩
  obtain ⟨fD1, hfD1, A1_6'⟩ : ∃ fD1 : Nat → Int32, fD1 = (upd (fun _ => 0) (idx q0) ((0 : Int32) + 1)) ∧ IA Z h22 cD .int 1024 fD1 := ⟨_, rfl, A1_6⟩
  obtain ⟨fE1, hfE1, A1_7'⟩ : ∃ fE1 : Nat → Int32, fE1 = (upd (fun _ => 0) 0 p2) ∧ IA Z h22 cE .int 1024 fE1 := ⟨_, rfl, A1_7⟩
  obtain ⟨fN1, hfN1, A1_8'⟩ : ∃ fN1 : Nat → Int32, fN1 = (upd (fun _ => 0) 0 ((fun _ => 0) (idx q0))) ∧ IA Z h22 cN .int 1024 fN1 := ⟨_, rfl, A1_8⟩
  obtain ⟨wc1, hwc1, A1_9'⟩ : ∃ wc1 : Int32, wc1 = (if (fun _ => 0) (idx q0) = 0 then (0 : Int32) + 1 else (0 : Int32)) ∧ Fld Z h22 b48 "com/example/auditspur/auditspur/core/store/Postings" "codes" "I" (.int wc1) := ⟨_, rfl, A1_9⟩
  obtain ⟨wp1, hwp1, A1_10'⟩ : ∃ wp1 : Int32, wp1 = ((0 : Int32) + 1) ∧ Fld Z h22 b48 "com/example/auditspur/auditspur/core/store/Postings" "postings" "I" (.int wp1) := ⟨_, rfl, A1_10⟩
  have hwcb1 : 0 ≤ wc1.toInt ∧ wc1.toInt ≤ 700 := by have := own_wc (B := 0) (b := 0) (w := 0) (by decide) (by decide) hwc1; omega
  obtain ⟨cq23, kq23, q23a, q23b, q23c⟩ := isOf hZ e22 A1_0
  obtain ⟨_, _, ⟨T23, L23, k23, n23⟩, -, X23, ⟨Lc23, hQ23, l23, y23, z23⟩, st23⟩ := X22.virtualBack hx (y := (⟨"com/example/auditspur/auditspur/core/store/Postings", "add", "(JI)V"⟩ : MethodName)) (z := (⟨"com/example/auditspur/auditspur/core/store/Postings", "add", "(JI)V"⟩ : MethodName)) hown (mvT hZ (hw _ (List.mem_of_getElem? (i := 21) rfl))) (mvT hZ (hw _ (List.mem_of_getElem? (i := 22) rfl))) (notFace_of_selects (args := #[]) (mvT hZ (hw _ (List.mem_of_getElem? (i := 24) rfl)))) (mvT hZ (hw _ (List.mem_of_getElem? (i := 24) rfl))) (mvT hZ (hw _ (List.mem_of_getElem? (i := 23) rfl))) (by decide) (backOf (W := 0) (rm_add l Z a0 hw [] b48 j41_9_1 p3 cH cD cE cN fH1 fD1 fE1 fN1 wc1 wp1 1 (sk2 q0 j41_9_1) (sr2 q0 j41_9_1) h22 n0 Z22 A1_0 A1_1 A1_2 A1_3 A1_4 A1_5' A1_6' A1_7' A1_8' A1_9' A1_10' nrcH nrcD nrcE nrcN ncHcD ncHcE ncHcN ncDcE ncDcN ncEcN g_b48 g_cH g_cD g_cE g_cN (by rw [hwp1]; rfl) (by decide) hwcb1 (own_s2 hfD1 hfH1)) hZ (hw _ (List.mem_of_getElem? (i := 25) rfl)) (hw _ (List.mem_of_getElem? (i := 4) rfl)) (by decide) (by decide)) q23a q23c (g := (mkF m 71 #[.val (.long q0), .second, .val (.long q1), .second, .val (.int p2), .val (.int p3), .val (.int p4), .val (.int p5), .val (.int v6), .val (.long j41_9_1), .second, .val (.long v46), .second, .val (.ref b48), .unset, .unset, .unset] [(.int p3), (.long j41_9_1), (.ref b48)])) rfl (by rw [hml]; rfl) (Steps.refl _) (argsL := [(.long j41_9_1), (.int p3)]) (rest := []) (lenOf law_pd1 rfl) rfl (by show 2 * 0 + _ ≤ _; exact Nat.le_of_eq rfl) (hb hby at_71) (fun _ _ => ⟨rfl, e22, (by decide : 5 + 0 ≤ _), (by decide : 4102 + 0 ≤ _)⟩)
  dsimp only [Pt.U, Pt.locs, Pt.cells, Pt.slots] at X23 l23 y23 z23 st23 hQ23
  rw [l23, y23, z23] at X23
  obtain ⟨h23, e23⟩ : ∃ z, T23.heap = z := ⟨_, rfl⟩
  rw [e23] at hQ23
  obtain ⟨rfl, N23q, Kq23, A2_0, A2_1, A2_2, A2_3, A2_4, A2_5, A2_6, A2_7, A2_8, A2_9, A2_10⟩ := hQ23
  have N23 := Fr.app N22 N23q
  have Z23 : n0 ≤ h23.size := Nat.le_trans Z22 Kq23.1
  obtain ⟨fH2, hfH2, A2_5'⟩ : ∃ fH2 : Nat → Int64, fH2 = (if fD1 (sr2 q0 j41_9_1) = 0 then updJ fH1 (sr2 q0 j41_9_1) j41_9_1 else fH1) ∧ JA Z h23 cH 1024 fH2 := ⟨_, rfl, A2_5⟩
  obtain ⟨fD2, hfD2, A2_6'⟩ : ∃ fD2 : Nat → Int32, fD2 = (upd fD1 (sr2 q0 j41_9_1) (wp1 + 1)) ∧ IA Z h23 cD .int 1024 fD2 := ⟨_, rfl, A2_6⟩
  obtain ⟨fE2, hfE2, A2_7'⟩ : ∃ fE2 : Nat → Int32, fE2 = (upd fE1 1 p3) ∧ IA Z h23 cE .int 1024 fE2 := ⟨_, rfl, A2_7⟩
  obtain ⟨fN2, hfN2, A2_8'⟩ : ∃ fN2 : Nat → Int32, fN2 = (upd fN1 1 (fD1 (sr2 q0 j41_9_1))) ∧ IA Z h23 cN .int 1024 fN2 := ⟨_, rfl, A2_8⟩
  obtain ⟨wc2, hwc2, A2_9'⟩ : ∃ wc2 : Int32, wc2 = (if fD1 (sr2 q0 j41_9_1) = 0 then wc1 + 1 else wc1) ∧ Fld Z h23 b48 "com/example/auditspur/auditspur/core/store/Postings" "codes" "I" (.int wc2) := ⟨_, rfl, A2_9⟩
  obtain ⟨wp2, hwp2, A2_10'⟩ : ∃ wp2 : Int32, wp2 = (wp1 + 1) ∧ Fld Z h23 b48 "com/example/auditspur/auditspur/core/store/Postings" "postings" "I" (.int wp2) := ⟨_, rfl, A2_10⟩
  have hwcb2 : 0 ≤ wc2.toInt ∧ wc2.toInt ≤ 700 := by have a := own_wc (B := 0) (b := 0) (w := 0) (by decide) (by decide) hwc1; have b := own_wc (B := 0) (b := 1) (w := wc1) a (by decide) hwc2; omega
  obtain ⟨cq24, kq24, q24a, q24b, q24c⟩ := isOf hZ e23 A2_0
  obtain ⟨_, _, ⟨T24, L24, k24, n24⟩, -, X24, ⟨Lc24, hQ24, l24, y24, z24⟩, st24⟩ := X23.virtualBack hx (y := (⟨"com/example/auditspur/auditspur/core/store/Postings", "add", "(JI)V"⟩ : MethodName)) (z := (⟨"com/example/auditspur/auditspur/core/store/Postings", "add", "(JI)V"⟩ : MethodName)) hown (mvT hZ (hw _ (List.mem_of_getElem? (i := 21) rfl))) (mvT hZ (hw _ (List.mem_of_getElem? (i := 22) rfl))) (notFace_of_selects (args := #[]) (mvT hZ (hw _ (List.mem_of_getElem? (i := 24) rfl)))) (mvT hZ (hw _ (List.mem_of_getElem? (i := 24) rfl))) (mvT hZ (hw _ (List.mem_of_getElem? (i := 23) rfl))) (by decide) (backOf (W := 0) (rm_add l Z a0 hw [] b48 q0 p4 cH cD cE cN fH2 fD2 fE2 fN2 wc2 wp2 2 0 (idx q0) h23 n0 Z23 A2_0 A2_1 A2_2 A2_3 A2_4 A2_5' A2_6' A2_7' A2_8' A2_9' A2_10' nrcH nrcD nrcE nrcN ncHcD ncHcE ncHcN ncDcE ncDcN ncEcN g_b48 g_cH g_cD g_cE g_cN (by rw [hwp2, hwp1]; rfl) (by decide) hwcb2 (own_s3 hfD1 hfH1 hfH2)) hZ (hw _ (List.mem_of_getElem? (i := 25) rfl)) (hw _ (List.mem_of_getElem? (i := 4) rfl)) (by decide) (by decide)) q24a q24c (g := (mkF m 79 #[.val (.long q0), .second, .val (.long q1), .second, .val (.int p2), .val (.int p3), .val (.int p4), .val (.int p5), .val (.int v6), .val (.long j41_9_1), .second, .val (.long v46), .second, .val (.ref b48), .unset, .unset, .unset] [(.int p4), (.long q0), (.ref b48)])) rfl (by rw [hml]; rfl) (Steps.refl _) (argsL := [(.long q0), (.int p4)]) (rest := []) (lenOf law_pd1 rfl) rfl (by show 2 * 0 + _ ≤ _; exact Nat.le_of_eq rfl) (hb hby at_79) (fun _ _ => ⟨rfl, e23, (by decide : 5 + 0 ≤ _), (by decide : 4102 + 0 ≤ _)⟩)
  dsimp only [Pt.U, Pt.locs, Pt.cells, Pt.slots] at X24 l24 y24 z24 st24 hQ24
  rw [l24, y24, z24] at X24
  obtain ⟨h24, e24⟩ : ∃ z, T24.heap = z := ⟨_, rfl⟩
  rw [e24] at hQ24
  obtain ⟨rfl, N24q, Kq24, A3_0, A3_1, A3_2, A3_3, A3_4, A3_5, A3_6, A3_7, A3_8, A3_9, A3_10⟩ := hQ24
  have N24 := Fr.app N23 N24q
  have Z24 : n0 ≤ h24.size := Nat.le_trans Z23 Kq24.1
  obtain ⟨fH3, hfH3, A3_5'⟩ : ∃ fH3 : Nat → Int64, fH3 = (if fD2 (idx q0) = 0 then updJ fH2 (idx q0) q0 else fH2) ∧ JA Z h24 cH 1024 fH3 := ⟨_, rfl, A3_5⟩
  obtain ⟨fD3, hfD3, A3_6'⟩ : ∃ fD3 : Nat → Int32, fD3 = (upd fD2 (idx q0) (wp2 + 1)) ∧ IA Z h24 cD .int 1024 fD3 := ⟨_, rfl, A3_6⟩
  obtain ⟨fE3, hfE3, A3_7'⟩ : ∃ fE3 : Nat → Int32, fE3 = (upd fE2 2 p4) ∧ IA Z h24 cE .int 1024 fE3 := ⟨_, rfl, A3_7⟩
  obtain ⟨fN3, hfN3, A3_8'⟩ : ∃ fN3 : Nat → Int32, fN3 = (upd fN2 2 (fD2 (idx q0))) ∧ IA Z h24 cN .int 1024 fN3 := ⟨_, rfl, A3_8⟩
  obtain ⟨wc3, hwc3, A3_9'⟩ : ∃ wc3 : Int32, wc3 = (if fD2 (idx q0) = 0 then wc2 + 1 else wc2) ∧ Fld Z h24 b48 "com/example/auditspur/auditspur/core/store/Postings" "codes" "I" (.int wc3) := ⟨_, rfl, A3_9⟩
  obtain ⟨wp3, hwp3, A3_10'⟩ : ∃ wp3 : Int32, wp3 = (wp2 + 1) ∧ Fld Z h24 b48 "com/example/auditspur/auditspur/core/store/Postings" "postings" "I" (.int wp3) := ⟨_, rfl, A3_10⟩
  have hD2 := own_D2 hfD2 hwp1
  have hH2 := own_H2 hfD1 hfH1 hfH2
  have hH3 := own_H3 hfD1 hfD2 hwp1 hfH3
  have hD3 := own_D3 hfD3 hwp1 hwp2
  have hN3 := own_N3 hfD1 hD2 hfN1 hfN2 hfN3
  have hE3 := own_E3 hfE1 hfE2 hfE3
  have hD1 := own_D1 hfD1
  obtain ⟨cq25, kq25, q25a, q25b, q25c⟩ := isOf hZ e24 A3_0
  obtain ⟨_, _, ⟨T25, L25, k25, n25⟩, -, X25, ⟨Lc25, hQ25, l25, y25, z25⟩, st25⟩ := X24.virtualBack hx (y := (⟨"com/example/auditspur/auditspur/core/store/Postings", "events", "(JI)[I"⟩ : MethodName)) (z := (⟨"com/example/auditspur/auditspur/core/store/Postings", "events", "(JI)[I"⟩ : MethodName)) hown (mvT hZ (hw _ (List.mem_of_getElem? (i := 36) rfl))) (mvT hZ (hw _ (List.mem_of_getElem? (i := 37) rfl))) (notFace_of_selects (args := #[]) (mvT hZ (hw _ (List.mem_of_getElem? (i := 39) rfl)))) (mvT hZ (hw _ (List.mem_of_getElem? (i := 39) rfl))) (mvT hZ (hw _ (List.mem_of_getElem? (i := 38) rfl))) (by decide) (backOf (W := 0) (rm_evs l Z a0 hw [] b48 q0 p5 cH cD cE cN fH3 fD3 fE3 fN3 wc3 wp3 0 (idx q0) (es1 q0 j41_9_1) h24 n0 Z24 A3_0 A3_1 A3_2 A3_3 A3_4 A3_5' A3_6' A3_7' A3_8' A3_9' A3_10' (own_s4 hH2.1 hH3) (own_ch1 hD3 hN3) (own_es1 _ _)) hZ (hw _ (List.mem_of_getElem? (i := 40) rfl)) (hw _ (List.mem_of_getElem? (i := 4) rfl)) (by decide) (by decide)) q25a q25c (g := (mkF m 87 #[.val (.long q0), .second, .val (.long q1), .second, .val (.int p2), .val (.int p3), .val (.int p4), .val (.int p5), .val (.int v6), .val (.long j41_9_1), .second, .val (.long v46), .second, .val (.ref b48), .unset, .unset, .unset] [(.int p5), (.long q0), (.ref b48)])) rfl (by rw [hml]; rfl) (Steps.refl _) (argsL := [(.long q0), (.int p5)]) (rest := []) (lenOf law_pd2 rfl) rfl (by show 2 * 0 + _ ≤ _; exact Nat.le_of_eq rfl) (hb hby at_87) (fun _ _ => ⟨rfl, e24, (by decide : 5 + 2 ≤ _), (by decide : 4102 + 32 ≤ _)⟩)
  dsimp only [Pt.U, Pt.locs, Pt.cells, Pt.slots] at X25 l25 y25 z25 st25 hQ25
  rw [l25, y25, z25] at X25
  obtain ⟨h25, e25⟩ : ∃ z, T25.heap = z := ⟨_, rfl⟩
  rw [e25] at hQ25
  obtain ⟨g1, rfl, N25q, Kq25, gs_g1, F26⟩ := hQ25
  have N25 := Fr.app N24 N25q
  have g_g1 : n0 ≤ g1 := Nat.le_trans Z24 gs_g1
  have ne_b48_g1 : b48 ≠ g1 := Nat.ne_of_lt (Nat.lt_of_lt_of_le A3_0.lt gs_g1)
  have ne_cH_g1 : cH ≠ g1 := Nat.ne_of_lt (Nat.lt_of_lt_of_le A3_5'.lt gs_g1)
  have ne_cD_g1 : cD ≠ g1 := Nat.ne_of_lt (Nat.lt_of_lt_of_le A3_6'.lt gs_g1)
  have ne_cE_g1 : cE ≠ g1 := Nat.ne_of_lt (Nat.lt_of_lt_of_le A3_7'.lt gs_g1)
  have ne_cN_g1 : cN ≠ g1 := Nat.ne_of_lt (Nat.lt_of_lt_of_le A3_8'.lt gs_g1)
  have Z25 : n0 ≤ h25.size := Nat.le_trans Z24 Kq25.1
  have F27 : Exa Z h25 b48 "com/example/auditspur/auditspur/core/store/Postings" := A3_0.keep Kq25
  have F28 : Fld Z h25 b48 "com/example/auditspur/auditspur/core/store/Postings" "hashes" "[J" (.ref cH) := A3_1.keep Kq25 nin0
  have F29 : Fld Z h25 b48 "com/example/auditspur/auditspur/core/store/Postings" "heads" "[I" (.ref cD) := A3_2.keep Kq25 nin0
  have F30 : Fld Z h25 b48 "com/example/auditspur/auditspur/core/store/Postings" "events" "[I" (.ref cE) := A3_3.keep Kq25 nin0
  have F31 : Fld Z h25 b48 "com/example/auditspur/auditspur/core/store/Postings" "next" "[I" (.ref cN) := A3_4.keep Kq25 nin0
  have F32 : JA Z h25 cH 1024 fH3 := A3_5'.keep Kq25 nin0
  have F33 : IA Z h25 cD .int 1024 fD3 := A3_6'.keep Kq25 nin0
  have F34 : IA Z h25 cE .int 1024 fE3 := A3_7'.keep Kq25 nin0
  have F35 : IA Z h25 cN .int 1024 fN3 := A3_8'.keep Kq25 nin0
  have F36 : Fld Z h25 b48 "com/example/auditspur/auditspur/core/store/Postings" "codes" "I" (.int wc3) := A3_9'.keep Kq25 nin0
  have F37 : Fld Z h25 b48 "com/example/auditspur/auditspur/core/store/Postings" "postings" "I" (.int wp3) := A3_10'.keep Kq25 nin0
  obtain ⟨cq38, kq38, q38a, q38b, q38c⟩ := isOf hZ e25 F27
  obtain ⟨_, _, ⟨T38, L38, k38, n38⟩, -, X38, ⟨Lc38, hQ38, l38, y38, z38⟩, st38⟩ := X25.virtualBack hx (y := (⟨"com/example/auditspur/auditspur/core/store/Postings", "events", "(JI)[I"⟩ : MethodName)) (z := (⟨"com/example/auditspur/auditspur/core/store/Postings", "events", "(JI)[I"⟩ : MethodName)) hown (mvT hZ (hw _ (List.mem_of_getElem? (i := 36) rfl))) (mvT hZ (hw _ (List.mem_of_getElem? (i := 37) rfl))) (notFace_of_selects (args := #[]) (mvT hZ (hw _ (List.mem_of_getElem? (i := 39) rfl)))) (mvT hZ (hw _ (List.mem_of_getElem? (i := 39) rfl))) (mvT hZ (hw _ (List.mem_of_getElem? (i := 38) rfl))) (by decide) (backOf (W := 0) (rm_evs l Z a0 hw [] b48 j41_9_1 p5 cH cD cE cN fH3 fD3 fE3 fN3 wc3 wp3 (sk2 q0 j41_9_1) (sr2 q0 j41_9_1) (es2 q0 j41_9_1) h25 n0 Z25 F27 F28 F29 F30 F31 F32 F33 F34 F35 F36 F37 (own_s5 hD3 hH2 hH3) (own_ch2 hD2 hD3 hN3) (own_es2 _ _)) hZ (hw _ (List.mem_of_getElem? (i := 40) rfl)) (hw _ (List.mem_of_getElem? (i := 4) rfl)) (by decide) (by decide)) q38a q38c (g := (mkF m 98 #[.val (.long q0), .second, .val (.long q1), .second, .val (.int p2), .val (.int p3), .val (.int p4), .val (.int p5), .val (.int v6), .val (.long j41_9_1), .second, .val (.long v46), .second, .val (.ref b48), .val (.ref g1), .unset, .unset] [(.int p5), (.long j41_9_1), (.ref b48)])) rfl (by rw [hml]; rfl) (Steps.refl _) (argsL := [(.long j41_9_1), (.int p5)]) (rest := []) (lenOf law_pd2 rfl) rfl (by show 2 * 0 + _ ≤ _; exact Nat.le_of_eq rfl) (hb hby at_98) (fun _ _ => ⟨rfl, e25, (by decide : 7 + 2 ≤ _), (by decide : 4134 + 32 ≤ _)⟩)
  dsimp only [Pt.U, Pt.locs, Pt.cells, Pt.slots] at X38 l38 y38 z38 st38 hQ38
  rw [l38, y38, z38] at X38
  obtain ⟨h38, e38⟩ : ∃ z, T38.heap = z := ⟨_, rfl⟩
  rw [e38] at hQ38
  obtain ⟨g2, rfl, N38q, Kq38, gs_g2, F39⟩ := hQ38
  have N38 := Fr.app N25 N38q
  have g_g2 : n0 ≤ g2 := Nat.le_trans Z25 gs_g2
  have ne_b48_g2 : b48 ≠ g2 := Nat.ne_of_lt (Nat.lt_of_lt_of_le F27.lt gs_g2)
  have ne_cH_g2 : cH ≠ g2 := Nat.ne_of_lt (Nat.lt_of_lt_of_le F32.lt gs_g2)
  have ne_cD_g2 : cD ≠ g2 := Nat.ne_of_lt (Nat.lt_of_lt_of_le F33.lt gs_g2)
  have ne_cE_g2 : cE ≠ g2 := Nat.ne_of_lt (Nat.lt_of_lt_of_le F34.lt gs_g2)
  have ne_cN_g2 : cN ≠ g2 := Nat.ne_of_lt (Nat.lt_of_lt_of_le F35.lt gs_g2)
  have ne_g1_g2 : g1 ≠ g2 := Nat.ne_of_lt (Nat.lt_of_lt_of_le F26.lt gs_g2)
  have Z38 : n0 ≤ h38.size := Nat.le_trans Z25 Kq38.1
  have F40 : Exa Z h38 b48 "com/example/auditspur/auditspur/core/store/Postings" := F27.keep Kq38
  have F41 : Fld Z h38 b48 "com/example/auditspur/auditspur/core/store/Postings" "hashes" "[J" (.ref cH) := F28.keep Kq38 nin0
  have F42 : Fld Z h38 b48 "com/example/auditspur/auditspur/core/store/Postings" "heads" "[I" (.ref cD) := F29.keep Kq38 nin0
  have F43 : Fld Z h38 b48 "com/example/auditspur/auditspur/core/store/Postings" "events" "[I" (.ref cE) := F30.keep Kq38 nin0
  have F44 : Fld Z h38 b48 "com/example/auditspur/auditspur/core/store/Postings" "next" "[I" (.ref cN) := F31.keep Kq38 nin0
  have F45 : JA Z h38 cH 1024 fH3 := F32.keep Kq38 nin0
  have F46 : IA Z h38 cD .int 1024 fD3 := F33.keep Kq38 nin0
  have F47 : IA Z h38 cE .int 1024 fE3 := F34.keep Kq38 nin0
  have F48 : IA Z h38 cN .int 1024 fN3 := F35.keep Kq38 nin0
  have F49 : Fld Z h38 b48 "com/example/auditspur/auditspur/core/store/Postings" "codes" "I" (.int wc3) := F36.keep Kq38 nin0
  have F50 : Fld Z h38 b48 "com/example/auditspur/auditspur/core/store/Postings" "postings" "I" (.int wp3) := F37.keep Kq38 nin0
  have F51 : IA Z h38 g1 .int (coll fE3 p5 (es1 q0 j41_9_1)).length (fun j => (coll fE3 p5 (es1 q0 j41_9_1)).getD j 0) := F26.keep Kq38 nin0
  obtain ⟨cq52, kq52, q52a, q52b, q52c⟩ := isOf hZ e38 F40
  obtain ⟨_, _, ⟨T52, L52, k52, n52⟩, -, X52, ⟨Lc52, hQ52, l52, y52, z52⟩, st52⟩ := X38.virtualBack hx (y := (⟨"com/example/auditspur/auditspur/core/store/Postings", "events", "(JI)[I"⟩ : MethodName)) (z := (⟨"com/example/auditspur/auditspur/core/store/Postings", "events", "(JI)[I"⟩ : MethodName)) hown (mvT hZ (hw _ (List.mem_of_getElem? (i := 36) rfl))) (mvT hZ (hw _ (List.mem_of_getElem? (i := 37) rfl))) (notFace_of_selects (args := #[]) (mvT hZ (hw _ (List.mem_of_getElem? (i := 39) rfl)))) (mvT hZ (hw _ (List.mem_of_getElem? (i := 39) rfl))) (mvT hZ (hw _ (List.mem_of_getElem? (i := 38) rfl))) (by decide) (backOf (W := 0) (rm_evs l Z a0 hw [] b48 v46 p5 cH cD cE cN fH3 fD3 fE3 fN3 wc3 wp3 (sk3 q0 j41_9_1) (sr3 q0 j41_9_1) (es3 q0 j41_9_1) h38 n0 Z38 F40 F41 F42 F43 F44 F45 F46 F47 F48 F49 F50 (own_s6 hv46 hD1 hD2 hD3 hH2 hH3) (own_ch3 hD1 hD2 hD3 hN3) (own_es3 _ _)) hZ (hw _ (List.mem_of_getElem? (i := 40) rfl)) (hw _ (List.mem_of_getElem? (i := 4) rfl)) (by decide) (by decide)) q52a q52c (g := (mkF m 109 #[.val (.long q0), .second, .val (.long q1), .second, .val (.int p2), .val (.int p3), .val (.int p4), .val (.int p5), .val (.int v6), .val (.long j41_9_1), .second, .val (.long v46), .second, .val (.ref b48), .val (.ref g1), .val (.ref g2), .unset] [(.int p5), (.long v46), (.ref b48)])) rfl (by rw [hml]; rfl) (Steps.refl _) (argsL := [(.long v46), (.int p5)]) (rest := []) (lenOf law_pd2 rfl) rfl (by show 2 * 0 + _ ≤ _; exact Nat.le_of_eq rfl) (hb hby at_109) (fun _ _ => ⟨rfl, e38, (by decide : 9 + 2 ≤ _), (by decide : 4166 + 32 ≤ _)⟩)
  dsimp only [Pt.U, Pt.locs, Pt.cells, Pt.slots] at X52 l52 y52 z52 st52 hQ52
  rw [l52, y52, z52] at X52
  obtain ⟨h52, e52⟩ : ∃ z, T52.heap = z := ⟨_, rfl⟩
  rw [e52] at hQ52
  obtain ⟨g3, rfl, N52q, Kq52, gs_g3, F53⟩ := hQ52
  have N52 := Fr.app N38 N52q
  have g_g3 : n0 ≤ g3 := Nat.le_trans Z38 gs_g3
  have ne_b48_g3 : b48 ≠ g3 := Nat.ne_of_lt (Nat.lt_of_lt_of_le F40.lt gs_g3)
  have ne_cH_g3 : cH ≠ g3 := Nat.ne_of_lt (Nat.lt_of_lt_of_le F45.lt gs_g3)
  have ne_cD_g3 : cD ≠ g3 := Nat.ne_of_lt (Nat.lt_of_lt_of_le F46.lt gs_g3)
  have ne_cE_g3 : cE ≠ g3 := Nat.ne_of_lt (Nat.lt_of_lt_of_le F47.lt gs_g3)
  have ne_cN_g3 : cN ≠ g3 := Nat.ne_of_lt (Nat.lt_of_lt_of_le F48.lt gs_g3)
  have ne_g1_g3 : g1 ≠ g3 := Nat.ne_of_lt (Nat.lt_of_lt_of_le F51.lt gs_g3)
  have ne_g2_g3 : g2 ≠ g3 := Nat.ne_of_lt (Nat.lt_of_lt_of_le F39.lt gs_g3)
  have Z52 : n0 ≤ h52.size := Nat.le_trans Z38 Kq52.1
  have F54 : Exa Z h52 b48 "com/example/auditspur/auditspur/core/store/Postings" := F40.keep Kq52
  have F55 : Fld Z h52 b48 "com/example/auditspur/auditspur/core/store/Postings" "hashes" "[J" (.ref cH) := F41.keep Kq52 nin0
  have F56 : Fld Z h52 b48 "com/example/auditspur/auditspur/core/store/Postings" "heads" "[I" (.ref cD) := F42.keep Kq52 nin0
  have F57 : Fld Z h52 b48 "com/example/auditspur/auditspur/core/store/Postings" "events" "[I" (.ref cE) := F43.keep Kq52 nin0
  have F58 : Fld Z h52 b48 "com/example/auditspur/auditspur/core/store/Postings" "next" "[I" (.ref cN) := F44.keep Kq52 nin0
  have F59 : JA Z h52 cH 1024 fH3 := F45.keep Kq52 nin0
  have F60 : IA Z h52 cD .int 1024 fD3 := F46.keep Kq52 nin0
  have F61 : IA Z h52 cE .int 1024 fE3 := F47.keep Kq52 nin0
  have F62 : IA Z h52 cN .int 1024 fN3 := F48.keep Kq52 nin0
  have F63 : Fld Z h52 b48 "com/example/auditspur/auditspur/core/store/Postings" "codes" "I" (.int wc3) := F49.keep Kq52 nin0
  have F64 : Fld Z h52 b48 "com/example/auditspur/auditspur/core/store/Postings" "postings" "I" (.int wp3) := F50.keep Kq52 nin0
  have F65 : IA Z h52 g1 .int (coll fE3 p5 (es1 q0 j41_9_1)).length (fun j => (coll fE3 p5 (es1 q0 j41_9_1)).getD j 0) := F51.keep Kq52 nin0
  have F66 : IA Z h52 g2 .int (coll fE3 p5 (es2 q0 j41_9_1)).length (fun j => (coll fE3 p5 (es2 q0 j41_9_1)).getD j 0) := F39.keep Kq52 nin0
  obtain ⟨_, _, ⟨T67, L67, k67, n67⟩, -, X67, ⟨Lc67, hQ67, l67, y67, z67⟩, st67⟩ := Jvm.LawKit.callS X52 hx (y := (⟨"com/example/auditspur/auditspur/core/store/PostingsEventsPinLaw", "check", "([IJJJIIII)Z"⟩ : MethodName)) hown (mvT hZ (hw _ (List.mem_of_getElem? (i := 53) rfl))) (mvT hZ (hw _ (List.mem_of_getElem? (i := 54) rfl))) (mvT hZ (hw _ (List.mem_of_getElem? (i := 55) rfl))) (mvT hZ (hw _ (List.mem_of_getElem? (i := 56) rfl))) (by decide) (backOf (W := 0) (rm_chk l Z a0 hw [] g1 q0 q0 j41_9_1 p2 p3 p4 p5 (fun j => (coll fE3 p5 (es1 q0 j41_9_1)).getD j 0) (coll fE3 p5 (es1 q0 j41_9_1)).length h52 n0 Z52 F65 (own_l1 _ _ _ _)) hZ (hw _ (List.mem_of_getElem? (i := 56) rfl)) (hw _ (List.mem_of_getElem? (i := 55) rfl)) (by decide) (by decide)) (g := (mkF m 128 #[.val (.long q0), .second, .val (.long q1), .second, .val (.int p2), .val (.int p3), .val (.int p4), .val (.int p5), .val (.int v6), .val (.long j41_9_1), .second, .val (.long v46), .second, .val (.ref b48), .val (.ref g1), .val (.ref g2), .val (.ref g3)] [(.int p5), (.int p4), (.int p3), (.int p2), (.long j41_9_1), (.long q0), (.long q0), (.ref g1)])) rfl (by rw [hml]; rfl) (argsL := [(.ref g1), (.long q0), (.long q0), (.long j41_9_1), (.int p2), (.int p3), (.int p4), (.int p5)]) (rest := []) (lenOf law_pd3 rfl) rfl (by show 2 * 0 + _ ≤ _; exact Nat.le_of_eq rfl) (hb hby at_128) (fun _ _ => ⟨rfl, e52, (by decide : 11 + 1 ≤ _), (by decide : 4198 + 3 ≤ _)⟩)
  dsimp only [Pt.U, Pt.locs, Pt.cells, Pt.slots] at X67 l67 y67 z67 st67 hQ67
  rw [l67, y67, z67] at X67
  obtain ⟨h67, e67⟩ : ∃ z, T67.heap = z := ⟨_, rfl⟩
  rw [e67] at hQ67
  obtain ⟨rfl, N67q, Kq67⟩ := hQ67
  have N67 := Fr.app N52 N67q
  have Z67 : n0 ≤ h67.size := Nat.le_trans Z52 Kq67.1
  have F68 : Exa Z h67 b48 "com/example/auditspur/auditspur/core/store/Postings" := F54.keep Kq67
  have F69 : Fld Z h67 b48 "com/example/auditspur/auditspur/core/store/Postings" "hashes" "[J" (.ref cH) := F55.keep Kq67 nin0
  have F70 : Fld Z h67 b48 "com/example/auditspur/auditspur/core/store/Postings" "heads" "[I" (.ref cD) := F56.keep Kq67 nin0
  have F71 : Fld Z h67 b48 "com/example/auditspur/auditspur/core/store/Postings" "events" "[I" (.ref cE) := F57.keep Kq67 nin0
  have F72 : Fld Z h67 b48 "com/example/auditspur/auditspur/core/store/Postings" "next" "[I" (.ref cN) := F58.keep Kq67 nin0
  have F73 : JA Z h67 cH 1024 fH3 := F59.keep Kq67 nin0
  have F74 : IA Z h67 cD .int 1024 fD3 := F60.keep Kq67 nin0
  have F75 : IA Z h67 cE .int 1024 fE3 := F61.keep Kq67 nin0
  have F76 : IA Z h67 cN .int 1024 fN3 := F62.keep Kq67 nin0
  have F77 : Fld Z h67 b48 "com/example/auditspur/auditspur/core/store/Postings" "codes" "I" (.int wc3) := F63.keep Kq67 nin0
  have F78 : Fld Z h67 b48 "com/example/auditspur/auditspur/core/store/Postings" "postings" "I" (.int wp3) := F64.keep Kq67 nin0
  have F79 : IA Z h67 g1 .int (coll fE3 p5 (es1 q0 j41_9_1)).length (fun j => (coll fE3 p5 (es1 q0 j41_9_1)).getD j 0) := F65.keep Kq67 nin0
  have F80 : IA Z h67 g2 .int (coll fE3 p5 (es2 q0 j41_9_1)).length (fun j => (coll fE3 p5 (es2 q0 j41_9_1)).getD j 0) := F66.keep Kq67 nin0
  have F81 : IA Z h67 g3 .int (coll fE3 p5 (es3 q0 j41_9_1)).length (fun j => (coll fE3 p5 (es3 q0 j41_9_1)).getD j 0) := F53.keep Kq67 nin0
  obtain ⟨_, _, ⟨T82, L82, k82, n82⟩, -, X82, ⟨Lc82, hQ82, l82, y82, z82⟩, st82⟩ := Jvm.LawKit.callS X67 hx (y := (⟨"com/example/auditspur/auditspur/core/store/PostingsEventsPinLaw", "check", "([IJJJIIII)Z"⟩ : MethodName)) hown (mvT hZ (hw _ (List.mem_of_getElem? (i := 53) rfl))) (mvT hZ (hw _ (List.mem_of_getElem? (i := 54) rfl))) (mvT hZ (hw _ (List.mem_of_getElem? (i := 55) rfl))) (mvT hZ (hw _ (List.mem_of_getElem? (i := 56) rfl))) (by decide) (backOf (W := 0) (rm_chk l Z a0 hw [] g2 j41_9_1 q0 j41_9_1 p2 p3 p4 p5 (fun j => (coll fE3 p5 (es2 q0 j41_9_1)).getD j 0) (coll fE3 p5 (es2 q0 j41_9_1)).length h67 n0 Z67 F80 (own_l2 _ _ _ _)) hZ (hw _ (List.mem_of_getElem? (i := 56) rfl)) (hw _ (List.mem_of_getElem? (i := 55) rfl)) (by decide) (by decide)) (g := (mkF m 149 #[.val (.long q0), .second, .val (.long q1), .second, .val (.int p2), .val (.int p3), .val (.int p4), .val (.int p5), .val (.int v6), .val (.long j41_9_1), .second, .val (.long v46), .second, .val (.ref b48), .val (.ref g1), .val (.ref g2), .val (.ref g3)] [(.int p5), (.int p4), (.int p3), (.int p2), (.long j41_9_1), (.long q0), (.long j41_9_1), (.ref g2)])) rfl (by rw [hml]; rfl) (argsL := [(.ref g2), (.long j41_9_1), (.long q0), (.long j41_9_1), (.int p2), (.int p3), (.int p4), (.int p5)]) (rest := []) (lenOf law_pd3 rfl) rfl (by show 2 * 0 + _ ≤ _; exact Nat.le_of_eq rfl) (hb hby at_149) (fun _ _ => ⟨rfl, e67, (by decide : 12 + 1 ≤ _), (by decide : 4201 + 3 ≤ _)⟩)
  dsimp only [Pt.U, Pt.locs, Pt.cells, Pt.slots] at X82 l82 y82 z82 st82 hQ82
  rw [l82, y82, z82] at X82
  obtain ⟨h82, e82⟩ : ∃ z, T82.heap = z := ⟨_, rfl⟩
  rw [e82] at hQ82
  obtain ⟨rfl, N82q, Kq82⟩ := hQ82
  have N82 := Fr.app N67 N82q
  have Z82 : n0 ≤ h82.size := Nat.le_trans Z67 Kq82.1
  have F83 : Exa Z h82 b48 "com/example/auditspur/auditspur/core/store/Postings" := F68.keep Kq82
  have F84 : Fld Z h82 b48 "com/example/auditspur/auditspur/core/store/Postings" "hashes" "[J" (.ref cH) := F69.keep Kq82 nin0
  have F85 : Fld Z h82 b48 "com/example/auditspur/auditspur/core/store/Postings" "heads" "[I" (.ref cD) := F70.keep Kq82 nin0
  have F86 : Fld Z h82 b48 "com/example/auditspur/auditspur/core/store/Postings" "events" "[I" (.ref cE) := F71.keep Kq82 nin0
  have F87 : Fld Z h82 b48 "com/example/auditspur/auditspur/core/store/Postings" "next" "[I" (.ref cN) := F72.keep Kq82 nin0
  have F88 : JA Z h82 cH 1024 fH3 := F73.keep Kq82 nin0
  have F89 : IA Z h82 cD .int 1024 fD3 := F74.keep Kq82 nin0
  have F90 : IA Z h82 cE .int 1024 fE3 := F75.keep Kq82 nin0
  have F91 : IA Z h82 cN .int 1024 fN3 := F76.keep Kq82 nin0
  have F92 : Fld Z h82 b48 "com/example/auditspur/auditspur/core/store/Postings" "codes" "I" (.int wc3) := F77.keep Kq82 nin0
  have F93 : Fld Z h82 b48 "com/example/auditspur/auditspur/core/store/Postings" "postings" "I" (.int wp3) := F78.keep Kq82 nin0
  have F94 : IA Z h82 g1 .int (coll fE3 p5 (es1 q0 j41_9_1)).length (fun j => (coll fE3 p5 (es1 q0 j41_9_1)).getD j 0) := F79.keep Kq82 nin0
  have F95 : IA Z h82 g2 .int (coll fE3 p5 (es2 q0 j41_9_1)).length (fun j => (coll fE3 p5 (es2 q0 j41_9_1)).getD j 0) := F80.keep Kq82 nin0
  have F96 : IA Z h82 g3 .int (coll fE3 p5 (es3 q0 j41_9_1)).length (fun j => (coll fE3 p5 (es3 q0 j41_9_1)).getD j 0) := F81.keep Kq82 nin0
  obtain ⟨_, _, ⟨T97, L97, k97, n97⟩, -, X97, ⟨Lc97, hQ97, l97, y97, z97⟩, st97⟩ := Jvm.LawKit.callS X82 hx (y := (⟨"com/example/auditspur/auditspur/core/store/PostingsEventsPinLaw", "check", "([IJJJIIII)Z"⟩ : MethodName)) hown (mvT hZ (hw _ (List.mem_of_getElem? (i := 53) rfl))) (mvT hZ (hw _ (List.mem_of_getElem? (i := 54) rfl))) (mvT hZ (hw _ (List.mem_of_getElem? (i := 55) rfl))) (mvT hZ (hw _ (List.mem_of_getElem? (i := 56) rfl))) (by decide) (backOf (W := 0) (rm_chk l Z a0 hw [] g3 v46 q0 j41_9_1 p2 p3 p4 p5 (fun j => (coll fE3 p5 (es3 q0 j41_9_1)).getD j 0) (coll fE3 p5 (es3 q0 j41_9_1)).length h82 n0 Z82 F96 (own_l3 _ _ _ _)) hZ (hw _ (List.mem_of_getElem? (i := 56) rfl)) (hw _ (List.mem_of_getElem? (i := 55) rfl)) (by decide) (by decide)) (g := (mkF m 170 #[.val (.long q0), .second, .val (.long q1), .second, .val (.int p2), .val (.int p3), .val (.int p4), .val (.int p5), .val (.int v6), .val (.long j41_9_1), .second, .val (.long v46), .second, .val (.ref b48), .val (.ref g1), .val (.ref g2), .val (.ref g3)] [(.int p5), (.int p4), (.int p3), (.int p2), (.long j41_9_1), (.long q0), (.long v46), (.ref g3)])) rfl (by rw [hml]; rfl) (argsL := [(.ref g3), (.long v46), (.long q0), (.long j41_9_1), (.int p2), (.int p3), (.int p4), (.int p5)]) (rest := []) (lenOf law_pd3 rfl) rfl (by show 2 * 0 + _ ≤ _; exact Nat.le_of_eq rfl) (hb hby at_170) (fun _ _ => ⟨rfl, e82, (by decide : 13 + 1 ≤ _), (by decide : 4204 + 3 ≤ _)⟩)
  dsimp only [Pt.U, Pt.locs, Pt.cells, Pt.slots] at X97 l97 y97 z97 st97 hQ97
  rw [l97, y97, z97] at X97
  obtain ⟨h97, e97⟩ : ∃ z, T97.heap = z := ⟨_, rfl⟩
  rw [e97] at hQ97
  obtain ⟨rfl, N97q, Kq97⟩ := hQ97
  have N97 := Fr.app N82 N97q
  have Z97 : n0 ≤ h97.size := Nat.le_trans Z82 Kq97.1
  have F98 : Exa Z h97 b48 "com/example/auditspur/auditspur/core/store/Postings" := F83.keep Kq97
  have F99 : Fld Z h97 b48 "com/example/auditspur/auditspur/core/store/Postings" "hashes" "[J" (.ref cH) := F84.keep Kq97 nin0
  have F100 : Fld Z h97 b48 "com/example/auditspur/auditspur/core/store/Postings" "heads" "[I" (.ref cD) := F85.keep Kq97 nin0
  have F101 : Fld Z h97 b48 "com/example/auditspur/auditspur/core/store/Postings" "events" "[I" (.ref cE) := F86.keep Kq97 nin0
  have F102 : Fld Z h97 b48 "com/example/auditspur/auditspur/core/store/Postings" "next" "[I" (.ref cN) := F87.keep Kq97 nin0
  have F103 : JA Z h97 cH 1024 fH3 := F88.keep Kq97 nin0
  have F104 : IA Z h97 cD .int 1024 fD3 := F89.keep Kq97 nin0
  have F105 : IA Z h97 cE .int 1024 fE3 := F90.keep Kq97 nin0
  have F106 : IA Z h97 cN .int 1024 fN3 := F91.keep Kq97 nin0
  have F107 : Fld Z h97 b48 "com/example/auditspur/auditspur/core/store/Postings" "codes" "I" (.int wc3) := F92.keep Kq97 nin0
  have F108 : Fld Z h97 b48 "com/example/auditspur/auditspur/core/store/Postings" "postings" "I" (.int wp3) := F93.keep Kq97 nin0
  have F109 : IA Z h97 g1 .int (coll fE3 p5 (es1 q0 j41_9_1)).length (fun j => (coll fE3 p5 (es1 q0 j41_9_1)).getD j 0) := F94.keep Kq97 nin0
  have F110 : IA Z h97 g2 .int (coll fE3 p5 (es2 q0 j41_9_1)).length (fun j => (coll fE3 p5 (es2 q0 j41_9_1)).getD j 0) := F95.keep Kq97 nin0
  have F111 : IA Z h97 g3 .int (coll fE3 p5 (es3 q0 j41_9_1)).length (fun j => (coll fE3 p5 (es3 q0 j41_9_1)).getD j 0) := F96.keep Kq97 nin0
  have K112 : ∀ t, Steps p.tables e below (T97.setTop (mkF m 181 #[.val (.long q0), .second, .val (.long q1), .second, .val (.int p2), .val (.int p3), .val (.int p4), .val (.int p5), .val (.int v6), .val (.long j41_9_1), .second, .val (.long v46), .second, .val (.ref b48), .val (.ref g1), .val (.ref g2), .val (.ref g3)] [(.int (1 : Int32))])) t → P0 t := by
    intro t kt
    refine K13 t ?_
    show Steps p.tables e below (s₁.setTop (mkF m 48 #[.val (.long q0), .second, .val (.long q1), .second, .val (.int p2), .val (.int p3), .val (.int p4), .val (.int p5), .val (.int v6), .val (.long j41_9_1), .second, .val (.long v46), .second, .unset, .unset, .unset, .unset] [])) t
    refine st14 _ ?_
    show Steps p.tables e below (T14.setTop (mkF m 51 #[.val (.long q0), .second, .val (.long q1), .second, .val (.int p2), .val (.int p3), .val (.int p4), .val (.int p5), .val (.int v6), .val (.long j41_9_1), .second, .val (.long v46), .second, .unset, .unset, .unset, .unset] [(.ref b48)])) t
    refine XS.dup X14.here hx rfl (hb hby at_51) rfl rfl ?_
    show Steps p.tables e below (T14.setTop (mkF m 52 #[.val (.long q0), .second, .val (.long q1), .second, .val (.int p2), .val (.int p3), .val (.int p4), .val (.int p5), .val (.int v6), .val (.long j41_9_1), .second, .val (.long v46), .second, .unset, .unset, .unset, .unset] [(.ref b48), (.ref b48)])) t
    refine st21.trans ?_
    show Steps p.tables e below (T21.setTop (mkF m 55 #[.val (.long q0), .second, .val (.long q1), .second, .val (.int p2), .val (.int p3), .val (.int p4), .val (.int p5), .val (.int v6), .val (.long j41_9_1), .second, .val (.long v46), .second, .unset, .unset, .unset, .unset] [(.ref b48)])) t
    refine XS.astore X21.here hx rfl (hb hby at_55) rfl rfl (l' := #[.val (.long q0), .second, .val (.long q1), .second, .val (.int p2), .val (.int p3), .val (.int p4), .val (.int p5), .val (.int v6), .val (.long j41_9_1), .second, .val (.long v46), .second, .val (.ref b48), .unset, .unset, .unset]) rfl ?_
    show Steps p.tables e below (T21.setTop (mkF m 57 #[.val (.long q0), .second, .val (.long q1), .second, .val (.int p2), .val (.int p3), .val (.int p4), .val (.int p5), .val (.int v6), .val (.long j41_9_1), .second, .val (.long v46), .second, .val (.ref b48), .unset, .unset, .unset] [])) t
    refine XS.aload X21.here hx rfl (hb hby at_57) rfl rfl ?_
    show Steps p.tables e below (T21.setTop (mkF m 59 #[.val (.long q0), .second, .val (.long q1), .second, .val (.int p2), .val (.int p3), .val (.int p4), .val (.int p5), .val (.int v6), .val (.long j41_9_1), .second, .val (.long v46), .second, .val (.ref b48), .unset, .unset, .unset] [(.ref b48)])) t
    refine XS.lloadN X21.here hx rfl (hb hby at_59) rfl ?_
    show Steps p.tables e below (T21.setTop (mkF m 60 #[.val (.long q0), .second, .val (.long q1), .second, .val (.int p2), .val (.int p3), .val (.int p4), .val (.int p5), .val (.int v6), .val (.long j41_9_1), .second, .val (.long v46), .second, .val (.ref b48), .unset, .unset, .unset] [(.long q0), (.ref b48)])) t
    refine XS.iload X21.here hx rfl (hb hby at_60) rfl ?_
    show Steps p.tables e below (T21.setTop (mkF m 62 #[.val (.long q0), .second, .val (.long q1), .second, .val (.int p2), .val (.int p3), .val (.int p4), .val (.int p5), .val (.int v6), .val (.long j41_9_1), .second, .val (.long v46), .second, .val (.ref b48), .unset, .unset, .unset] [(.int p2), (.long q0), (.ref b48)])) t
    refine st22.trans ?_
    show Steps p.tables e below (T22.setTop (mkF m 65 #[.val (.long q0), .second, .val (.long q1), .second, .val (.int p2), .val (.int p3), .val (.int p4), .val (.int p5), .val (.int v6), .val (.long j41_9_1), .second, .val (.long v46), .second, .val (.ref b48), .unset, .unset, .unset] [])) t
    refine XS.aload X22.here hx rfl (hb hby at_65) rfl rfl ?_
    show Steps p.tables e below (T22.setTop (mkF m 67 #[.val (.long q0), .second, .val (.long q1), .second, .val (.int p2), .val (.int p3), .val (.int p4), .val (.int p5), .val (.int v6), .val (.long j41_9_1), .second, .val (.long v46), .second, .val (.ref b48), .unset, .unset, .unset] [(.ref b48)])) t
    refine XS.lload X22.here hx rfl (hb hby at_67) rfl ?_
    show Steps p.tables e below (T22.setTop (mkF m 69 #[.val (.long q0), .second, .val (.long q1), .second, .val (.int p2), .val (.int p3), .val (.int p4), .val (.int p5), .val (.int v6), .val (.long j41_9_1), .second, .val (.long v46), .second, .val (.ref b48), .unset, .unset, .unset] [(.long j41_9_1), (.ref b48)])) t
    refine XS.iload X22.here hx rfl (hb hby at_69) rfl ?_
    show Steps p.tables e below (T22.setTop (mkF m 71 #[.val (.long q0), .second, .val (.long q1), .second, .val (.int p2), .val (.int p3), .val (.int p4), .val (.int p5), .val (.int v6), .val (.long j41_9_1), .second, .val (.long v46), .second, .val (.ref b48), .unset, .unset, .unset] [(.int p3), (.long j41_9_1), (.ref b48)])) t
    refine st23.trans ?_
    show Steps p.tables e below (T23.setTop (mkF m 74 #[.val (.long q0), .second, .val (.long q1), .second, .val (.int p2), .val (.int p3), .val (.int p4), .val (.int p5), .val (.int v6), .val (.long j41_9_1), .second, .val (.long v46), .second, .val (.ref b48), .unset, .unset, .unset] [])) t
    refine XS.aload X23.here hx rfl (hb hby at_74) rfl rfl ?_
    show Steps p.tables e below (T23.setTop (mkF m 76 #[.val (.long q0), .second, .val (.long q1), .second, .val (.int p2), .val (.int p3), .val (.int p4), .val (.int p5), .val (.int v6), .val (.long j41_9_1), .second, .val (.long v46), .second, .val (.ref b48), .unset, .unset, .unset] [(.ref b48)])) t
    refine XS.lloadN X23.here hx rfl (hb hby at_76) rfl ?_
    show Steps p.tables e below (T23.setTop (mkF m 77 #[.val (.long q0), .second, .val (.long q1), .second, .val (.int p2), .val (.int p3), .val (.int p4), .val (.int p5), .val (.int v6), .val (.long j41_9_1), .second, .val (.long v46), .second, .val (.ref b48), .unset, .unset, .unset] [(.long q0), (.ref b48)])) t
    refine XS.iload X23.here hx rfl (hb hby at_77) rfl ?_
    show Steps p.tables e below (T23.setTop (mkF m 79 #[.val (.long q0), .second, .val (.long q1), .second, .val (.int p2), .val (.int p3), .val (.int p4), .val (.int p5), .val (.int v6), .val (.long j41_9_1), .second, .val (.long v46), .second, .val (.ref b48), .unset, .unset, .unset] [(.int p4), (.long q0), (.ref b48)])) t
    refine st24.trans ?_
    show Steps p.tables e below (T24.setTop (mkF m 82 #[.val (.long q0), .second, .val (.long q1), .second, .val (.int p2), .val (.int p3), .val (.int p4), .val (.int p5), .val (.int v6), .val (.long j41_9_1), .second, .val (.long v46), .second, .val (.ref b48), .unset, .unset, .unset] [])) t
    refine XS.aload X24.here hx rfl (hb hby at_82) rfl rfl ?_
    show Steps p.tables e below (T24.setTop (mkF m 84 #[.val (.long q0), .second, .val (.long q1), .second, .val (.int p2), .val (.int p3), .val (.int p4), .val (.int p5), .val (.int v6), .val (.long j41_9_1), .second, .val (.long v46), .second, .val (.ref b48), .unset, .unset, .unset] [(.ref b48)])) t
    refine XS.lloadN X24.here hx rfl (hb hby at_84) rfl ?_
    show Steps p.tables e below (T24.setTop (mkF m 85 #[.val (.long q0), .second, .val (.long q1), .second, .val (.int p2), .val (.int p3), .val (.int p4), .val (.int p5), .val (.int v6), .val (.long j41_9_1), .second, .val (.long v46), .second, .val (.ref b48), .unset, .unset, .unset] [(.long q0), (.ref b48)])) t
    refine XS.iload X24.here hx rfl (hb hby at_85) rfl ?_
    show Steps p.tables e below (T24.setTop (mkF m 87 #[.val (.long q0), .second, .val (.long q1), .second, .val (.int p2), .val (.int p3), .val (.int p4), .val (.int p5), .val (.int v6), .val (.long j41_9_1), .second, .val (.long v46), .second, .val (.ref b48), .unset, .unset, .unset] [(.int p5), (.long q0), (.ref b48)])) t
    refine st25.trans ?_
    show Steps p.tables e below (T25.setTop (mkF m 90 #[.val (.long q0), .second, .val (.long q1), .second, .val (.int p2), .val (.int p3), .val (.int p4), .val (.int p5), .val (.int v6), .val (.long j41_9_1), .second, .val (.long v46), .second, .val (.ref b48), .unset, .unset, .unset] [(.ref g1)])) t
    refine XS.astore X25.here hx rfl (hb hby at_90) rfl rfl (l' := #[.val (.long q0), .second, .val (.long q1), .second, .val (.int p2), .val (.int p3), .val (.int p4), .val (.int p5), .val (.int v6), .val (.long j41_9_1), .second, .val (.long v46), .second, .val (.ref b48), .val (.ref g1), .unset, .unset]) rfl ?_
    show Steps p.tables e below (T25.setTop (mkF m 92 #[.val (.long q0), .second, .val (.long q1), .second, .val (.int p2), .val (.int p3), .val (.int p4), .val (.int p5), .val (.int v6), .val (.long j41_9_1), .second, .val (.long v46), .second, .val (.ref b48), .val (.ref g1), .unset, .unset] [])) t
    refine XS.aload X25.here hx rfl (hb hby at_92) rfl rfl ?_
    show Steps p.tables e below (T25.setTop (mkF m 94 #[.val (.long q0), .second, .val (.long q1), .second, .val (.int p2), .val (.int p3), .val (.int p4), .val (.int p5), .val (.int v6), .val (.long j41_9_1), .second, .val (.long v46), .second, .val (.ref b48), .val (.ref g1), .unset, .unset] [(.ref b48)])) t
    refine XS.lload X25.here hx rfl (hb hby at_94) rfl ?_
    show Steps p.tables e below (T25.setTop (mkF m 96 #[.val (.long q0), .second, .val (.long q1), .second, .val (.int p2), .val (.int p3), .val (.int p4), .val (.int p5), .val (.int v6), .val (.long j41_9_1), .second, .val (.long v46), .second, .val (.ref b48), .val (.ref g1), .unset, .unset] [(.long j41_9_1), (.ref b48)])) t
    refine XS.iload X25.here hx rfl (hb hby at_96) rfl ?_
    show Steps p.tables e below (T25.setTop (mkF m 98 #[.val (.long q0), .second, .val (.long q1), .second, .val (.int p2), .val (.int p3), .val (.int p4), .val (.int p5), .val (.int v6), .val (.long j41_9_1), .second, .val (.long v46), .second, .val (.ref b48), .val (.ref g1), .unset, .unset] [(.int p5), (.long j41_9_1), (.ref b48)])) t
    refine st38.trans ?_
    show Steps p.tables e below (T38.setTop (mkF m 101 #[.val (.long q0), .second, .val (.long q1), .second, .val (.int p2), .val (.int p3), .val (.int p4), .val (.int p5), .val (.int v6), .val (.long j41_9_1), .second, .val (.long v46), .second, .val (.ref b48), .val (.ref g1), .unset, .unset] [(.ref g2)])) t
    refine XS.astore X38.here hx rfl (hb hby at_101) rfl rfl (l' := #[.val (.long q0), .second, .val (.long q1), .second, .val (.int p2), .val (.int p3), .val (.int p4), .val (.int p5), .val (.int v6), .val (.long j41_9_1), .second, .val (.long v46), .second, .val (.ref b48), .val (.ref g1), .val (.ref g2), .unset]) rfl ?_
    show Steps p.tables e below (T38.setTop (mkF m 103 #[.val (.long q0), .second, .val (.long q1), .second, .val (.int p2), .val (.int p3), .val (.int p4), .val (.int p5), .val (.int v6), .val (.long j41_9_1), .second, .val (.long v46), .second, .val (.ref b48), .val (.ref g1), .val (.ref g2), .unset] [])) t
    refine XS.aload X38.here hx rfl (hb hby at_103) rfl rfl ?_
    show Steps p.tables e below (T38.setTop (mkF m 105 #[.val (.long q0), .second, .val (.long q1), .second, .val (.int p2), .val (.int p3), .val (.int p4), .val (.int p5), .val (.int v6), .val (.long j41_9_1), .second, .val (.long v46), .second, .val (.ref b48), .val (.ref g1), .val (.ref g2), .unset] [(.ref b48)])) t
    refine XS.lload X38.here hx rfl (hb hby at_105) rfl ?_
    show Steps p.tables e below (T38.setTop (mkF m 107 #[.val (.long q0), .second, .val (.long q1), .second, .val (.int p2), .val (.int p3), .val (.int p4), .val (.int p5), .val (.int v6), .val (.long j41_9_1), .second, .val (.long v46), .second, .val (.ref b48), .val (.ref g1), .val (.ref g2), .unset] [(.long v46), (.ref b48)])) t
    refine XS.iload X38.here hx rfl (hb hby at_107) rfl ?_
    show Steps p.tables e below (T38.setTop (mkF m 109 #[.val (.long q0), .second, .val (.long q1), .second, .val (.int p2), .val (.int p3), .val (.int p4), .val (.int p5), .val (.int v6), .val (.long j41_9_1), .second, .val (.long v46), .second, .val (.ref b48), .val (.ref g1), .val (.ref g2), .unset] [(.int p5), (.long v46), (.ref b48)])) t
    refine st52.trans ?_
    show Steps p.tables e below (T52.setTop (mkF m 112 #[.val (.long q0), .second, .val (.long q1), .second, .val (.int p2), .val (.int p3), .val (.int p4), .val (.int p5), .val (.int v6), .val (.long j41_9_1), .second, .val (.long v46), .second, .val (.ref b48), .val (.ref g1), .val (.ref g2), .unset] [(.ref g3)])) t
    refine XS.astore X52.here hx rfl (hb hby at_112) rfl rfl (l' := #[.val (.long q0), .second, .val (.long q1), .second, .val (.int p2), .val (.int p3), .val (.int p4), .val (.int p5), .val (.int v6), .val (.long j41_9_1), .second, .val (.long v46), .second, .val (.ref b48), .val (.ref g1), .val (.ref g2), .val (.ref g3)]) rfl ?_
    show Steps p.tables e below (T52.setTop (mkF m 114 #[.val (.long q0), .second, .val (.long q1), .second, .val (.int p2), .val (.int p3), .val (.int p4), .val (.int p5), .val (.int v6), .val (.long j41_9_1), .second, .val (.long v46), .second, .val (.ref b48), .val (.ref g1), .val (.ref g2), .val (.ref g3)] [])) t
    refine XS.aload X52.here hx rfl (hb hby at_114) rfl rfl ?_
    show Steps p.tables e below (T52.setTop (mkF m 116 #[.val (.long q0), .second, .val (.long q1), .second, .val (.int p2), .val (.int p3), .val (.int p4), .val (.int p5), .val (.int v6), .val (.long j41_9_1), .second, .val (.long v46), .second, .val (.ref b48), .val (.ref g1), .val (.ref g2), .val (.ref g3)] [(.ref g1)])) t
    refine XS.lloadN X52.here hx rfl (hb hby at_116) rfl ?_
    show Steps p.tables e below (T52.setTop (mkF m 117 #[.val (.long q0), .second, .val (.long q1), .second, .val (.int p2), .val (.int p3), .val (.int p4), .val (.int p5), .val (.int v6), .val (.long j41_9_1), .second, .val (.long v46), .second, .val (.ref b48), .val (.ref g1), .val (.ref g2), .val (.ref g3)] [(.long q0), (.ref g1)])) t
    refine XS.lloadN X52.here hx rfl (hb hby at_117) rfl ?_
    show Steps p.tables e below (T52.setTop (mkF m 118 #[.val (.long q0), .second, .val (.long q1), .second, .val (.int p2), .val (.int p3), .val (.int p4), .val (.int p5), .val (.int v6), .val (.long j41_9_1), .second, .val (.long v46), .second, .val (.ref b48), .val (.ref g1), .val (.ref g2), .val (.ref g3)] [(.long q0), (.long q0), (.ref g1)])) t
    refine XS.lload X52.here hx rfl (hb hby at_118) rfl ?_
    show Steps p.tables e below (T52.setTop (mkF m 120 #[.val (.long q0), .second, .val (.long q1), .second, .val (.int p2), .val (.int p3), .val (.int p4), .val (.int p5), .val (.int v6), .val (.long j41_9_1), .second, .val (.long v46), .second, .val (.ref b48), .val (.ref g1), .val (.ref g2), .val (.ref g3)] [(.long j41_9_1), (.long q0), (.long q0), (.ref g1)])) t
    refine XS.iload X52.here hx rfl (hb hby at_120) rfl ?_
    show Steps p.tables e below (T52.setTop (mkF m 122 #[.val (.long q0), .second, .val (.long q1), .second, .val (.int p2), .val (.int p3), .val (.int p4), .val (.int p5), .val (.int v6), .val (.long j41_9_1), .second, .val (.long v46), .second, .val (.ref b48), .val (.ref g1), .val (.ref g2), .val (.ref g3)] [(.int p2), (.long j41_9_1), (.long q0), (.long q0), (.ref g1)])) t
    refine XS.iload X52.here hx rfl (hb hby at_122) rfl ?_
    show Steps p.tables e below (T52.setTop (mkF m 124 #[.val (.long q0), .second, .val (.long q1), .second, .val (.int p2), .val (.int p3), .val (.int p4), .val (.int p5), .val (.int v6), .val (.long j41_9_1), .second, .val (.long v46), .second, .val (.ref b48), .val (.ref g1), .val (.ref g2), .val (.ref g3)] [(.int p3), (.int p2), (.long j41_9_1), (.long q0), (.long q0), (.ref g1)])) t
    refine XS.iload X52.here hx rfl (hb hby at_124) rfl ?_
    show Steps p.tables e below (T52.setTop (mkF m 126 #[.val (.long q0), .second, .val (.long q1), .second, .val (.int p2), .val (.int p3), .val (.int p4), .val (.int p5), .val (.int v6), .val (.long j41_9_1), .second, .val (.long v46), .second, .val (.ref b48), .val (.ref g1), .val (.ref g2), .val (.ref g3)] [(.int p4), (.int p3), (.int p2), (.long j41_9_1), (.long q0), (.long q0), (.ref g1)])) t
    refine XS.iload X52.here hx rfl (hb hby at_126) rfl ?_
    show Steps p.tables e below (T52.setTop (mkF m 128 #[.val (.long q0), .second, .val (.long q1), .second, .val (.int p2), .val (.int p3), .val (.int p4), .val (.int p5), .val (.int v6), .val (.long j41_9_1), .second, .val (.long v46), .second, .val (.ref b48), .val (.ref g1), .val (.ref g2), .val (.ref g3)] [(.int p5), (.int p4), (.int p3), (.int p2), (.long j41_9_1), (.long q0), (.long q0), (.ref g1)])) t
    refine st67 _ ?_
    show Steps p.tables e below (T67.setTop (mkF m 131 #[.val (.long q0), .second, .val (.long q1), .second, .val (.int p2), .val (.int p3), .val (.int p4), .val (.int p5), .val (.int v6), .val (.long j41_9_1), .second, .val (.long v46), .second, .val (.ref b48), .val (.ref g1), .val (.ref g2), .val (.ref g3)] [(.int (fChk q0 q0 j41_9_1 p2 p3 p4 p5 (fun j => (coll fE3 p5 (es1 q0 j41_9_1)).getD j 0) (coll fE3 p5 (es1 q0 j41_9_1)).length))])) t
    refine XS.ifNo X67.here hx rfl (hb hby at_131) rfl ((if0 _ _).trans (feq (own_k1 hE3)).1) ?_
    show Steps p.tables e below (T67.setTop (mkF m 134 #[.val (.long q0), .second, .val (.long q1), .second, .val (.int p2), .val (.int p3), .val (.int p4), .val (.int p5), .val (.int v6), .val (.long j41_9_1), .second, .val (.long v46), .second, .val (.ref b48), .val (.ref g1), .val (.ref g2), .val (.ref g3)] [])) t
    refine XS.aload X67.here hx rfl (hb hby at_134) rfl rfl ?_
    show Steps p.tables e below (T67.setTop (mkF m 136 #[.val (.long q0), .second, .val (.long q1), .second, .val (.int p2), .val (.int p3), .val (.int p4), .val (.int p5), .val (.int v6), .val (.long j41_9_1), .second, .val (.long v46), .second, .val (.ref b48), .val (.ref g1), .val (.ref g2), .val (.ref g3)] [(.ref g2)])) t
    refine XS.lload X67.here hx rfl (hb hby at_136) rfl ?_
    show Steps p.tables e below (T67.setTop (mkF m 138 #[.val (.long q0), .second, .val (.long q1), .second, .val (.int p2), .val (.int p3), .val (.int p4), .val (.int p5), .val (.int v6), .val (.long j41_9_1), .second, .val (.long v46), .second, .val (.ref b48), .val (.ref g1), .val (.ref g2), .val (.ref g3)] [(.long j41_9_1), (.ref g2)])) t
    refine XS.lloadN X67.here hx rfl (hb hby at_138) rfl ?_
    show Steps p.tables e below (T67.setTop (mkF m 139 #[.val (.long q0), .second, .val (.long q1), .second, .val (.int p2), .val (.int p3), .val (.int p4), .val (.int p5), .val (.int v6), .val (.long j41_9_1), .second, .val (.long v46), .second, .val (.ref b48), .val (.ref g1), .val (.ref g2), .val (.ref g3)] [(.long q0), (.long j41_9_1), (.ref g2)])) t
    refine XS.lload X67.here hx rfl (hb hby at_139) rfl ?_
    show Steps p.tables e below (T67.setTop (mkF m 141 #[.val (.long q0), .second, .val (.long q1), .second, .val (.int p2), .val (.int p3), .val (.int p4), .val (.int p5), .val (.int v6), .val (.long j41_9_1), .second, .val (.long v46), .second, .val (.ref b48), .val (.ref g1), .val (.ref g2), .val (.ref g3)] [(.long j41_9_1), (.long q0), (.long j41_9_1), (.ref g2)])) t
    refine XS.iload X67.here hx rfl (hb hby at_141) rfl ?_
    show Steps p.tables e below (T67.setTop (mkF m 143 #[.val (.long q0), .second, .val (.long q1), .second, .val (.int p2), .val (.int p3), .val (.int p4), .val (.int p5), .val (.int v6), .val (.long j41_9_1), .second, .val (.long v46), .second, .val (.ref b48), .val (.ref g1), .val (.ref g2), .val (.ref g3)] [(.int p2), (.long j41_9_1), (.long q0), (.long j41_9_1), (.ref g2)])) t
    refine XS.iload X67.here hx rfl (hb hby at_143) rfl ?_
    show Steps p.tables e below (T67.setTop (mkF m 145 #[.val (.long q0), .second, .val (.long q1), .second, .val (.int p2), .val (.int p3), .val (.int p4), .val (.int p5), .val (.int v6), .val (.long j41_9_1), .second, .val (.long v46), .second, .val (.ref b48), .val (.ref g1), .val (.ref g2), .val (.ref g3)] [(.int p3), (.int p2), (.long j41_9_1), (.long q0), (.long j41_9_1), (.ref g2)])) t
    refine XS.iload X67.here hx rfl (hb hby at_145) rfl ?_
    show Steps p.tables e below (T67.setTop (mkF m 147 #[.val (.long q0), .second, .val (.long q1), .second, .val (.int p2), .val (.int p3), .val (.int p4), .val (.int p5), .val (.int v6), .val (.long j41_9_1), .second, .val (.long v46), .second, .val (.ref b48), .val (.ref g1), .val (.ref g2), .val (.ref g3)] [(.int p4), (.int p3), (.int p2), (.long j41_9_1), (.long q0), (.long j41_9_1), (.ref g2)])) t
    refine XS.iload X67.here hx rfl (hb hby at_147) rfl ?_
    show Steps p.tables e below (T67.setTop (mkF m 149 #[.val (.long q0), .second, .val (.long q1), .second, .val (.int p2), .val (.int p3), .val (.int p4), .val (.int p5), .val (.int v6), .val (.long j41_9_1), .second, .val (.long v46), .second, .val (.ref b48), .val (.ref g1), .val (.ref g2), .val (.ref g3)] [(.int p5), (.int p4), (.int p3), (.int p2), (.long j41_9_1), (.long q0), (.long j41_9_1), (.ref g2)])) t
    refine st82 _ ?_
    show Steps p.tables e below (T82.setTop (mkF m 152 #[.val (.long q0), .second, .val (.long q1), .second, .val (.int p2), .val (.int p3), .val (.int p4), .val (.int p5), .val (.int v6), .val (.long j41_9_1), .second, .val (.long v46), .second, .val (.ref b48), .val (.ref g1), .val (.ref g2), .val (.ref g3)] [(.int (fChk j41_9_1 q0 j41_9_1 p2 p3 p4 p5 (fun j => (coll fE3 p5 (es2 q0 j41_9_1)).getD j 0) (coll fE3 p5 (es2 q0 j41_9_1)).length))])) t
    refine XS.ifNo X82.here hx rfl (hb hby at_152) rfl ((if0 _ _).trans (feq (own_k2 hE3)).1) ?_
    show Steps p.tables e below (T82.setTop (mkF m 155 #[.val (.long q0), .second, .val (.long q1), .second, .val (.int p2), .val (.int p3), .val (.int p4), .val (.int p5), .val (.int v6), .val (.long j41_9_1), .second, .val (.long v46), .second, .val (.ref b48), .val (.ref g1), .val (.ref g2), .val (.ref g3)] [])) t
    refine XS.aload X82.here hx rfl (hb hby at_155) rfl rfl ?_
    show Steps p.tables e below (T82.setTop (mkF m 157 #[.val (.long q0), .second, .val (.long q1), .second, .val (.int p2), .val (.int p3), .val (.int p4), .val (.int p5), .val (.int v6), .val (.long j41_9_1), .second, .val (.long v46), .second, .val (.ref b48), .val (.ref g1), .val (.ref g2), .val (.ref g3)] [(.ref g3)])) t
    refine XS.lload X82.here hx rfl (hb hby at_157) rfl ?_
    show Steps p.tables e below (T82.setTop (mkF m 159 #[.val (.long q0), .second, .val (.long q1), .second, .val (.int p2), .val (.int p3), .val (.int p4), .val (.int p5), .val (.int v6), .val (.long j41_9_1), .second, .val (.long v46), .second, .val (.ref b48), .val (.ref g1), .val (.ref g2), .val (.ref g3)] [(.long v46), (.ref g3)])) t
    refine XS.lloadN X82.here hx rfl (hb hby at_159) rfl ?_
    show Steps p.tables e below (T82.setTop (mkF m 160 #[.val (.long q0), .second, .val (.long q1), .second, .val (.int p2), .val (.int p3), .val (.int p4), .val (.int p5), .val (.int v6), .val (.long j41_9_1), .second, .val (.long v46), .second, .val (.ref b48), .val (.ref g1), .val (.ref g2), .val (.ref g3)] [(.long q0), (.long v46), (.ref g3)])) t
    refine XS.lload X82.here hx rfl (hb hby at_160) rfl ?_
    show Steps p.tables e below (T82.setTop (mkF m 162 #[.val (.long q0), .second, .val (.long q1), .second, .val (.int p2), .val (.int p3), .val (.int p4), .val (.int p5), .val (.int v6), .val (.long j41_9_1), .second, .val (.long v46), .second, .val (.ref b48), .val (.ref g1), .val (.ref g2), .val (.ref g3)] [(.long j41_9_1), (.long q0), (.long v46), (.ref g3)])) t
    refine XS.iload X82.here hx rfl (hb hby at_162) rfl ?_
    show Steps p.tables e below (T82.setTop (mkF m 164 #[.val (.long q0), .second, .val (.long q1), .second, .val (.int p2), .val (.int p3), .val (.int p4), .val (.int p5), .val (.int v6), .val (.long j41_9_1), .second, .val (.long v46), .second, .val (.ref b48), .val (.ref g1), .val (.ref g2), .val (.ref g3)] [(.int p2), (.long j41_9_1), (.long q0), (.long v46), (.ref g3)])) t
    refine XS.iload X82.here hx rfl (hb hby at_164) rfl ?_
    show Steps p.tables e below (T82.setTop (mkF m 166 #[.val (.long q0), .second, .val (.long q1), .second, .val (.int p2), .val (.int p3), .val (.int p4), .val (.int p5), .val (.int v6), .val (.long j41_9_1), .second, .val (.long v46), .second, .val (.ref b48), .val (.ref g1), .val (.ref g2), .val (.ref g3)] [(.int p3), (.int p2), (.long j41_9_1), (.long q0), (.long v46), (.ref g3)])) t
    refine XS.iload X82.here hx rfl (hb hby at_166) rfl ?_
    show Steps p.tables e below (T82.setTop (mkF m 168 #[.val (.long q0), .second, .val (.long q1), .second, .val (.int p2), .val (.int p3), .val (.int p4), .val (.int p5), .val (.int v6), .val (.long j41_9_1), .second, .val (.long v46), .second, .val (.ref b48), .val (.ref g1), .val (.ref g2), .val (.ref g3)] [(.int p4), (.int p3), (.int p2), (.long j41_9_1), (.long q0), (.long v46), (.ref g3)])) t
    refine XS.iload X82.here hx rfl (hb hby at_168) rfl ?_
    show Steps p.tables e below (T82.setTop (mkF m 170 #[.val (.long q0), .second, .val (.long q1), .second, .val (.int p2), .val (.int p3), .val (.int p4), .val (.int p5), .val (.int v6), .val (.long j41_9_1), .second, .val (.long v46), .second, .val (.ref b48), .val (.ref g1), .val (.ref g2), .val (.ref g3)] [(.int p5), (.int p4), (.int p3), (.int p2), (.long j41_9_1), (.long q0), (.long v46), (.ref g3)])) t
    refine st97 _ ?_
    show Steps p.tables e below (T97.setTop (mkF m 173 #[.val (.long q0), .second, .val (.long q1), .second, .val (.int p2), .val (.int p3), .val (.int p4), .val (.int p5), .val (.int v6), .val (.long j41_9_1), .second, .val (.long v46), .second, .val (.ref b48), .val (.ref g1), .val (.ref g2), .val (.ref g3)] [(.int (fChk v46 q0 j41_9_1 p2 p3 p4 p5 (fun j => (coll fE3 p5 (es3 q0 j41_9_1)).getD j 0) (coll fE3 p5 (es3 q0 j41_9_1)).length))])) t
    refine XS.ifNo X97.here hx rfl (hb hby at_173) rfl ((if0 _ _).trans (feq (own_k3 hv46 hE3)).1) ?_
    show Steps p.tables e below (T97.setTop (mkF m 176 #[.val (.long q0), .second, .val (.long q1), .second, .val (.int p2), .val (.int p3), .val (.int p4), .val (.int p5), .val (.int v6), .val (.long j41_9_1), .second, .val (.long v46), .second, .val (.ref b48), .val (.ref g1), .val (.ref g2), .val (.ref g3)] [])) t
    refine XS.iconst X97.here hx rfl (hb hby at_176) ?_
    show Steps p.tables e below (T97.setTop (mkF m 177 #[.val (.long q0), .second, .val (.long q1), .second, .val (.int p2), .val (.int p3), .val (.int p4), .val (.int p5), .val (.int v6), .val (.long j41_9_1), .second, .val (.long v46), .second, .val (.ref b48), .val (.ref g1), .val (.ref g2), .val (.ref g3)] [(.int (1 : Int32))])) t
    refine XS.goto X97.here hx rfl (pc0 := 177) (pc' := 181) rfl (hb hby at_177) (by decide) (by decide) ?_
    exact kt
  have hres : (1 : Int32) = 1 := rfl
  obtain ⟨fs, hr, hrun, hended, hW, hsame⟩ := X97.leave (v := some (.int (1 : Int32))) (fun h => by rw [Bd.returns] at h; cases h)
  refine ⟨_, _, ?_, hrun, hended, _, _, rfl, ?_, ⟨_, rfl⟩, hW, hsame.mono (by decide) (by decide)⟩
  · rw [hres] at K112
    have q := K112 _ (retN X97 hx (t := .boolean) Bd.returns (by simp) (hb hby at_181) hr)
    rw [hP0] at q; exact q
  · exact ⟨rfl, N97⟩
set_option maxRecDepth 65536 in
set_option maxHeartbeats 40000000 in
theorem comes_1 {Post : Tables → Env → Array Value → State → Outcome → State → Prop} (hpost : ∀ tb e args s v u, (limb_1_1.after args s (.returned v) u = true ∧ limb_1_2.after args s (.returned v) u = true ∧ True) → FrameEnd s (.returned v) u (Jvm.fieldLocs frame_1_writes args s ++ Jvm.arrayLocs frame_1_arrays args s ++ Jvm.staticLocs frame_1_statics s) 40 8448 → Post tb e args s (.returned v) u) :
    ArmFor flags0 classFile x code maxLocals ret World_1 tables_1 room_1 Calls_1 rest_1 Pre_1 Post := by
  intro l hfl _ _ p e ha hc hk s m args below hf hA hF happ hP
  obtain ⟨hcalls, hrest, hpre⟩ := hP
  obtain ⟨-, -, -, hnamed, -, -, -, hat⟩ := (Spec.applies_iff hf).mp happ
  obtain ⟨hg, hn⟩ := and_e (Cond.before_iff.mp (show (Jvm.Cond.and given_1 narrow_1).before args s = true from hpre))
  obtain ⟨gc, gr0⟩ := and_e hg
  obtain ⟨ga0, gr1⟩ := and_e gr0
  obtain ⟨ga1, gr2⟩ := and_e gr1
  obtain ⟨ga2, gr3⟩ := and_e gr2
  obtain ⟨ga3, gr4⟩ := and_e gr3
  obtain ⟨ga4, gr5⟩ := and_e gr4
  obtain ⟨w0, w1, w2, w3, w4, w5, rfl⟩ : ∃ w0 w1 w2 w3 w4 w5 : Value, args = #[w0, w1, w2, w3, w4, w5] := by
    have hs : args.size = 6 := by simpa [Cond.value, given_1] using gc
    obtain ⟨L⟩ := args
    match L, hs with
    | [w0, w1, w2, w3, w4, w5], _ => exact ⟨w0, w1, w2, w3, w4, w5, rfl⟩
  have hw := fun d (hd : d ∈ tables_1) => atoms_spec (ws := Jvm.Cond.code x code maxLocals ret :: tables_1) hat d (List.mem_cons_of_mem _ hd)
  obtain ⟨i0, ei0⟩ := isL_v ga0
  obtain rfl : w0 = (.long i0) := Option.some.inj ei0
  obtain ⟨i1, ei1⟩ := isL_v ga1
  obtain rfl : w1 = (.long i1) := Option.some.inj ei1
  obtain ⟨i2, ei2⟩ := is_v ga2
  obtain rfl : w2 = (.int i2) := Option.some.inj ei2
  obtain ⟨i3, ei3⟩ := is_v ga3
  obtain rfl : w3 = (.int i3) := Option.some.inj ei3
  obtain ⟨i4, ei4⟩ := is_v ga4
  obtain rfl : w4 = (.int i4) := Option.some.inj ei4
  obtain ⟨i5, ei5⟩ := is_v gr5
  obtain rfl : w5 = (.int i5) := Option.some.inj ei5
  obtain ⟨n, o, h1, h2, h3, _, L, rfl, ⟨rfl, N⟩, hq⟩ := rm_law l s _ hw tables_1 i0 i1 i2 i3 i4 i5 s.heap s.heap.size (Nat.le_refl _) p e ha hc hk s m _ below hf ((Spec.applies_iff_loose hf).mp happ).1 ⟨rfl, State.Warmed39.refl s, rfl⟩ trivial
  refine ⟨n, _, h1, h2, h3, hpost _ _ _ _ _ _ ⟨Cond.after_iff.mpr rfl, Cond.after_iff.mpr (eq_i res_at (Term.int_eval (1)) rfl), trivial⟩ ⟨hq.1, hq.2.1, (hq.2.2.sift fun y hy => Or.inr (N y hy)).mono (by decide) (by decide)⟩⟩
theorem main_1_1 : Claimed_1_1 := comes_1 fun _ _ _ _ _ _ h hF => ⟨h.1, hF⟩
theorem main_1_2 : Claimed_1_2 := comes_1 fun _ _ _ _ _ _ h hF => ⟨h.2.1, hF⟩
end Jvm.Pilot.@@N@@
namespace Jvm.Pilot.@@N@@
open Jvm Jvm.ClassFile Sem Op Lib Jvm.Free Jvm.Stand Jvm.Pilot.@@N@@.Jvm.D
/-! MADE BY PROGRAM (witnessworld.py) out of the Statement's table words and the real class files: 14 classes; the members and pool entries that the words name. The judged class is class 1, her method 1. -/
namespace start1
open Jvm.ClassFile
def u (s : String) : CpInfo := .utf8 (stringToUtf16 s)
/-- a pool by its gaps: so many unusable entries, then the entry; so many at the end -/
def gap : Nat → List CpInfo → List CpInfo
  | 0, r => r
  | n + 1, r => .unusable :: gap n r
def poolList (es : List (Nat × CpInfo)) (last : Nat) : List CpInfo := es.foldr (fun e r => gap e.1 (e.2 :: r)) (gap last [])
def pool (es : List (Nat × CpInfo)) (last : Nat) : Array CpInfo := ⟨poolList es last⟩
def fileOf (pool : Array CpInfo) (this : Nat) (attrs : Array Attribute := #[]) (ms : Array MethodInfo := #[]) (fl : Nat := 33) (sup : Nat := 0) (ifs : Array Nat := #[]) (fds : Array FieldInfo := #[]) : ClassFile where
  minorVersion := 0
  majorVersion := 65
  constantPool := pool
  accessFlags := fl
  thisClass := this
  superClass := sup
  interfaces := ifs
  fields := fds
  methods := ms
  attributes := attrs
def plain (name : String) (sup : Option ClassId) : Class where
  name := name
  kind := .ordinary
  loader := none
  accessFlags := 33
  super := sup
  interfaces := #[]
  cf := none
  fields := #[]
  methods := #[]
  instanceTypes := #[]
  staticTypes := #[]
  resolved := #[]
  callSites := []
  init := .initialized
  statics := none
  mirror := none

def pool0 : Array CpInfo := pool [(5, u "<init>"), (0, u "()V"), (1, .class_ 10), (1, u "java/lang/Object")] 113

def k0c0 : Code := { maxStack := 0, maxLocals := 1, code := object_method_1_code, exceptionTable := #[], attributes := #[] }
def k0m0 : Method := { name := "<init>", desc := "()V", sig := { parameters := [], returnType := none }, accessFlags := 1, code := some k0c0 }
/-- java/lang/Object -/
def k0 : Class := { plain "java/lang/Object" none with
  accessFlags := 33
  interfaces := #[]
  cf := some (fileOf pool0 8 #[] #[{ accessFlags := 1, nameIndex := 5, descriptorIndex := 6, attributes := #[] }] 33 0 #[] #[])
  fields := #[]
  methods := #[k0m0]
  instanceTypes := #[]
  staticTypes := #[]
  resolved := Array.replicate 124 none
  statics := none }

def pool1 : Array CpInfo := pool [(2, .class_ 4), (0, .nameAndType 5 6), (0, u "java/lang/Object"), (0, u "<init>"), (0, u "()V"), (0, .long 3), (1, .long 1024), (1, .class_ 12), (0, u "com/example/auditspur/auditspur/core/store/Postings"), (0, .methodref 11 3), (0, .methodref 11 15), (0, .nameAndType 16 17), (0, u "add"), (0, u "(JI)V"), (0, .methodref 11 19), (0, .nameAndType 20 21), (0, u "events"), (0, u "(JI)[I"), (0, .methodref 23 24), (0, .class_ 25), (0, .nameAndType 26 27), (0, u "com/example/auditspur/auditspur/core/store/PostingsEventsPinLaw"), (0, u "check"), (0, u "([IJJJIIII)Z"), (2, u "law"), (0, u "(JJIIII)Z")] 5

def k1m0 : Method := { name := "<init>", desc := "()V", sig := { parameters := [], returnType := none }, accessFlags := 1, code := none }
def k1c1 : Code := { maxStack := 11, maxLocals := 17, code := code, exceptionTable := #[], attributes := #[] }
def k1m1 : Method := { name := "law", desc := "(JJIIII)Z", sig := { parameters := [.long, .long, .int, .int, .int, .int], returnType := some .boolean }, accessFlags := 9, code := some k1c1 }
def k1c2 : Code := { maxStack := 4, maxLocals := 13, code := method_3_code, exceptionTable := #[], attributes := #[] }
def k1m2 : Method := { name := "check", desc := "([IJJJIIII)Z", sig := { parameters := [(.array .int), .long, .long, .long, .int, .int, .int, .int], returnType := some .boolean }, accessFlags := 10, code := some k1c2 }
/-- com/example/auditspur/auditspur/core/store/PostingsEventsPinLaw -/
def k1 : Class := { plain "com/example/auditspur/auditspur/core/store/PostingsEventsPinLaw" (some 0) with
  accessFlags := 49
  interfaces := #[]
  cf := some (fileOf pool1 23 #[] #[{ accessFlags := 1, nameIndex := 5, descriptorIndex := 6, attributes := #[] }, { accessFlags := 9, nameIndex := 30, descriptorIndex := 31, attributes := #[] }, { accessFlags := 10, nameIndex := 26, descriptorIndex := 27, attributes := #[] }] 49 2 #[] #[])
  fields := #[]
  methods := #[k1m0, k1m1, k1m2]
  instanceTypes := #[]
  staticTypes := #[]
  resolved := Array.replicate 37 none
  statics := none }

def pool2 : Array CpInfo := pool [(1, .methodref 2 3), (0, .class_ 4), (0, .nameAndType 5 6), (0, u "java/lang/Object"), (0, u "<init>"), (0, u "()V"), (0, .class_ 8), (0, u "com/example/auditspur/auditspur/core/store/Postings"), (0, .fieldref 7 10), (0, .nameAndType 11 12), (0, u "hashes"), (0, u "[J"), (0, .fieldref 7 14), (0, .nameAndType 15 16), (0, u "heads"), (0, u "[I"), (0, .fieldref 7 18), (0, .nameAndType 19 16), (0, u "events"), (0, .fieldref 7 21), (0, .nameAndType 22 16), (0, u "next"), (18, .fieldref 7 42), (0, .nameAndType 43 44), (0, u "postings"), (0, u "I"), (0, .methodref 46 47), (0, .class_ 48), (0, .nameAndType 49 50), (0, u "java/util/Arrays"), (0, u "copyOf"), (0, u "([II)[I"), (0, .methodref 7 52), (0, .nameAndType 53 54), (0, u "slot"), (0, u "(J)I"), (0, .fieldref 7 56), (0, .nameAndType 57 44), (0, u "codes"), (0, .long 4), (1, .long 3), (4, u "FNV_BASIS"), (0, u "J"), (1, u "FNV_PRIME"), (0, u "INITIAL_CAPACITY"), (6, u "add"), (0, u "(JI)V"), (0, u "(JI)[I")] 4

def k2c0 : Code := { maxStack := 2, maxLocals := 1, code := prog_26_method_1_code, exceptionTable := #[], attributes := #[] }
def k2m0 : Method := { name := "<init>", desc := "()V", sig := { parameters := [], returnType := none }, accessFlags := 0, code := some k2c0 }
def k2c1 : Code := { maxStack := 6, maxLocals := 5, code := prog_26_method_3_code, exceptionTable := #[], attributes := #[] }
def k2m1 : Method := { name := "add", desc := "(JI)V", sig := { parameters := [.long, .int], returnType := none }, accessFlags := 0, code := some k2c1 }
def k2c2 : Code := { maxStack := 4, maxLocals := 8, code := prog_26_method_4_code, exceptionTable := #[], attributes := #[] }
def k2m2 : Method := { name := "events", desc := "(JI)[I", sig := { parameters := [.long, .int], returnType := some (.array .int) }, accessFlags := 0, code := some k2c2 }
def k2c3 : Code := { maxStack := 4, maxLocals := 5, code := prog_26_method_5_code, exceptionTable := #[], attributes := #[] }
def k2m3 : Method := { name := "slot", desc := "(J)I", sig := { parameters := [.long], returnType := some .int }, accessFlags := 2, code := some k2c3 }
/-- com/example/auditspur/auditspur/core/store/Postings -/
def k2 : Class := { plain "com/example/auditspur/auditspur/core/store/Postings" (some 0) with
  accessFlags := 48
  interfaces := #[]
  cf := some (fileOf pool2 7 #[] #[{ accessFlags := 0, nameIndex := 5, descriptorIndex := 6, attributes := #[] }, { accessFlags := 0, nameIndex := 76, descriptorIndex := 77, attributes := #[] }, { accessFlags := 0, nameIndex := 19, descriptorIndex := 78, attributes := #[] }, { accessFlags := 2, nameIndex := 53, descriptorIndex := 54, attributes := #[] }] 48 2 #[] #[{ accessFlags := 26, nameIndex := 65, descriptorIndex := 66, attributes := #[] }, { accessFlags := 26, nameIndex := 68, descriptorIndex := 66, attributes := #[] }, { accessFlags := 26, nameIndex := 69, descriptorIndex := 44, attributes := #[] }, { accessFlags := 2, nameIndex := 11, descriptorIndex := 12, attributes := #[] }, { accessFlags := 2, nameIndex := 15, descriptorIndex := 16, attributes := #[] }, { accessFlags := 2, nameIndex := 57, descriptorIndex := 44, attributes := #[] }, { accessFlags := 2, nameIndex := 19, descriptorIndex := 16, attributes := #[] }, { accessFlags := 2, nameIndex := 22, descriptorIndex := 16, attributes := #[] }, { accessFlags := 2, nameIndex := 43, descriptorIndex := 44, attributes := #[] }])
  fields := #[{ name := "FNV_BASIS", type := .long, accessFlags := 26, slot := 0, constantValue := 0 }, { name := "FNV_PRIME", type := .long, accessFlags := 26, slot := 1, constantValue := 0 }, { name := "INITIAL_CAPACITY", type := .int, accessFlags := 26, slot := 2, constantValue := 0 }, { name := "hashes", type := (.array .long), accessFlags := 2, slot := 0, constantValue := 0 }, { name := "heads", type := (.array .int), accessFlags := 2, slot := 1, constantValue := 0 }, { name := "codes", type := .int, accessFlags := 2, slot := 2, constantValue := 0 }, { name := "events", type := (.array .int), accessFlags := 2, slot := 3, constantValue := 0 }, { name := "next", type := (.array .int), accessFlags := 2, slot := 4, constantValue := 0 }, { name := "postings", type := .int, accessFlags := 2, slot := 5, constantValue := 0 }]
  methods := #[k2m0, k2m1, k2m2, k2m3]
  instanceTypes := #[(.array .long), (.array .int), .int, (.array .int), (.array .int), .int]
  staticTypes := #[.long, .long, .int]
  resolved := Array.replicate 83 none
  statics := none }

def pool3 : Array CpInfo := pool [(2, .class_ 4), (1, u "java/lang/Object"), (0, u "<init>"), (0, u "()V"), (7, .class_ 16), (1, u "java/util/Arrays"), (57, .class_ 76), (1, u "java/util/Arrays$NaturalOrder"), (36, .class_ 115), (1, u "java/util/Arrays$LegacyMergeSort"), (1, u "Z"), (32, .methodref 151 152), (0, .class_ 153), (0, .nameAndType 154 155), (0, u "java/lang/System"), (0, u "arraycopy"), (0, u "(Ljava/lang/Object;ILjava/lang/Object;II)V"), (146, u "copyOf"), (1, .methodref 305 306), (0, .class_ 307), (0, .nameAndType 308 309), (0, u "java/lang/Math"), (0, u "min"), (0, u "(II)I"), (65, .class_ 376), (0, u "java/util/Arrays$ArrayList"), (68, u "$assertionsDisabled"), (269, u "MIN_ARRAY_SORT_GRAN"), (0, u "I"), (2, u "INSERTIONSORT_THRESHOLD"), (151, u "([II)[I"), (103, .class_ 976), (0, u "java/util/Arrays$ArrayItr")] 52

def k3m0 : Method := { name := "<init>", desc := "()V", sig := { parameters := [], returnType := none }, accessFlags := 2, code := none }
def k3c1 : Code := { maxStack := 6, maxLocals := 3, code := jdk_65_method_123_code, exceptionTable := #[], attributes := #[] }
def k3m1 : Method := { name := "copyOf", desc := "([II)[I", sig := { parameters := [(.array .int), .int], returnType := some (.array .int) }, accessFlags := 9, code := some k3c1 }
/-- java/util/Arrays -/
def k3 : Class := { plain "java/util/Arrays" (some 0) with
  accessFlags := 49
  interfaces := #[]
  cf := some (fileOf pool3 14 #[.nestMembers #[975, 375, 113, 74]] #[{ accessFlags := 2, nameIndex := 5, descriptorIndex := 6, attributes := #[] }, { accessFlags := 9, nameIndex := 302, descriptorIndex := 871, attributes := #[] }] 49 2 #[] #[{ accessFlags := 26, nameIndex := 715, descriptorIndex := 716, attributes := #[] }, { accessFlags := 26, nameIndex := 719, descriptorIndex := 716, attributes := #[] }, { accessFlags := 4120, nameIndex := 445, descriptorIndex := 117, attributes := #[] }])
  fields := #[{ name := "MIN_ARRAY_SORT_GRAN", type := .int, accessFlags := 26, slot := 0, constantValue := 0 }, { name := "INSERTIONSORT_THRESHOLD", type := .int, accessFlags := 26, slot := 1, constantValue := 0 }, { name := "$assertionsDisabled", type := .boolean, accessFlags := 4120, slot := 2, constantValue := 0 }]
  methods := #[k3m0, k3m1]
  instanceTypes := #[]
  staticTypes := #[.int, .int, .boolean]
  resolved := Array.replicate 1029 none
  statics := none }

def pool4 : Array CpInfo := pool [(1, .class_ 2), (0, u "java/lang/Math"), (1, .class_ 6), (1, u "java/lang/Object"), (0, u "<init>"), (0, u "()V"), (89, .class_ 100), (1, u "java/lang/Math$RandomNumberGeneratorHolder"), (71, u "negativeZeroFloatBits"), (0, u "J"), (2, u "negativeZeroDoubleBits"), (24, u "min"), (43, u "$assertionsDisabled"), (0, u "Z"), (88, u "(II)I"), (2, u "twoToTheDoubleScaleDown"), (0, u "D"), (4, u "twoToTheDoubleScaleUp"), (9, u "E"), (3, u "PI"), (2, u "TAU"), (2, u "DEGREES_TO_RADIANS"), (0, u "RADIANS_TO_DEGREES")] 94

def k4m0 : Method := { name := "<init>", desc := "()V", sig := { parameters := [], returnType := none }, accessFlags := 2, code := none }
def k4c1 : Code := { maxStack := 2, maxLocals := 2, code := jdk_29_method_69_code, exceptionTable := #[], attributes := #[] }
def k4m1 : Method := { name := "min", desc := "(II)I", sig := { parameters := [.int, .int], returnType := some .int }, accessFlags := 9, code := some k4c1 }
/-- java/lang/Math -/
def k4 : Class := { plain "java/lang/Math" (some 0) with
  accessFlags := 49
  interfaces := #[]
  cf := some (fileOf pool4 1 #[.nestMembers #[98]] #[{ accessFlags := 2, nameIndex := 7, descriptorIndex := 8, attributes := #[] }, { accessFlags := 9, nameIndex := 201, descriptorIndex := 335, attributes := #[] }] 49 4 #[] #[{ accessFlags := 25, nameIndex := 354, descriptorIndex := 339, attributes := #[] }, { accessFlags := 25, nameIndex := 358, descriptorIndex := 339, attributes := #[] }, { accessFlags := 25, nameIndex := 361, descriptorIndex := 339, attributes := #[] }, { accessFlags := 26, nameIndex := 364, descriptorIndex := 339, attributes := #[] }, { accessFlags := 26, nameIndex := 365, descriptorIndex := 339, attributes := #[] }, { accessFlags := 26, nameIndex := 172, descriptorIndex := 173, attributes := #[] }, { accessFlags := 26, nameIndex := 176, descriptorIndex := 173, attributes := #[] }, { accessFlags := 8, nameIndex := 344, descriptorIndex := 339, attributes := #[] }, { accessFlags := 8, nameIndex := 338, descriptorIndex := 339, attributes := #[] }, { accessFlags := 4120, nameIndex := 245, descriptorIndex := 246, attributes := #[] }])
  fields := #[{ name := "E", type := .double, accessFlags := 25, slot := 0, constantValue := 0 }, { name := "PI", type := .double, accessFlags := 25, slot := 1, constantValue := 0 }, { name := "TAU", type := .double, accessFlags := 25, slot := 2, constantValue := 0 }, { name := "DEGREES_TO_RADIANS", type := .double, accessFlags := 26, slot := 3, constantValue := 0 }, { name := "RADIANS_TO_DEGREES", type := .double, accessFlags := 26, slot := 4, constantValue := 0 }, { name := "negativeZeroFloatBits", type := .long, accessFlags := 26, slot := 5, constantValue := 0 }, { name := "negativeZeroDoubleBits", type := .long, accessFlags := 26, slot := 6, constantValue := 0 }, { name := "twoToTheDoubleScaleUp", type := .double, accessFlags := 8, slot := 7, constantValue := 0 }, { name := "twoToTheDoubleScaleDown", type := .double, accessFlags := 8, slot := 8, constantValue := 0 }, { name := "$assertionsDisabled", type := .boolean, accessFlags := 4120, slot := 9, constantValue := 0 }]
  methods := #[k4m0, k4m1]
  instanceTypes := #[]
  staticTypes := #[.double, .double, .double, .double, .double, .long, .long, .double, .double, .boolean]
  resolved := Array.replicate 460 none
  statics := none }

def pool5 : Array CpInfo := pool [(2, .class_ 4), (1, u "java/lang/Object"), (0, u "<init>"), (0, u "()V"), (1, .class_ 10), (1, u "java/lang/System"), (0, u "allowSecurityManager"), (0, u "I"), (16, u "cons"), (0, u "Ljava/io/Console;"), (77, .class_ 110), (1, u "java/lang/System$CallersHolder"), (43, u "initialErrStream"), (0, u "Ljava/io/PrintStream;"), (19, u "security"), (0, u "Ljava/lang/SecurityManager;"), (31, .class_ 209), (0, u "java/lang/System$1"), (7, u "props"), (0, u "Ljava/util/Properties;"), (2, u "lineSeparator"), (0, u "Ljava/lang/String;"), (96, .class_ 321), (1, u "java/lang/System$LoggerFinder"), (5, .class_ 328), (0, u "java/lang/System$Logger"), (67, u "err"), (2, u "out"), (91, u "notSupportedJnuEncoding"), (15, u "in"), (17, u "initialIn"), (0, u "Ljava/io/InputStream;"), (35, u "bootLayer"), (0, u "Ljava/lang/ModuleLayer;"), (99, .class_ 664), (0, u "java/lang/System$2"), (9, u "NEVER"), (2, u "MAYBE"), (49, u "arraycopy"), (0, u "(Ljava/lang/Object;ILjava/lang/Object;II)V"), (72, .class_ 802), (0, u "java/lang/System$Logger$Level")] 31

def k5m0 : Method := { name := "<init>", desc := "()V", sig := { parameters := [], returnType := none }, accessFlags := 2, code := none }
def k5m1 : Method := { name := "arraycopy", desc := "(Ljava/lang/Object;ILjava/lang/Object;II)V", sig := { parameters := [(.object "java/lang/Object"), .int, (.object "java/lang/Object"), .int, .int], returnType := none }, accessFlags := 265, code := none }
/-- java/lang/System -/
def k5 : Class := { plain "java/lang/System" (some 0) with
  accessFlags := 49
  interfaces := #[]
  cf := some (fileOf pool5 8 #[.nestMembers #[319, 327, 801, 108, 663, 208]] #[{ accessFlags := 2, nameIndex := 5, descriptorIndex := 6, attributes := #[] }, { accessFlags := 265, nameIndex := 727, descriptorIndex := 728, attributes := #[] }] 49 2 #[] #[{ accessFlags := 25, nameIndex := 507, descriptorIndex := 526, attributes := #[] }, { accessFlags := 25, nameIndex := 399, descriptorIndex := 155, attributes := #[] }, { accessFlags := 25, nameIndex := 396, descriptorIndex := 155, attributes := #[] }, { accessFlags := 10, nameIndex := 525, descriptorIndex := 526, attributes := #[] }, { accessFlags := 26, nameIndex := 674, descriptorIndex := 12, attributes := #[] }, { accessFlags := 26, nameIndex := 677, descriptorIndex := 12, attributes := #[] }, { accessFlags := 10, nameIndex := 11, descriptorIndex := 12, attributes := #[] }, { accessFlags := 74, nameIndex := 175, descriptorIndex := 176, attributes := #[] }, { accessFlags := 10, nameIndex := 491, descriptorIndex := 222, attributes := #[] }, { accessFlags := 74, nameIndex := 29, descriptorIndex := 30, attributes := #[] }, { accessFlags := 74, nameIndex := 154, descriptorIndex := 155, attributes := #[] }, { accessFlags := 10, nameIndex := 217, descriptorIndex := 218, attributes := #[] }, { accessFlags := 10, nameIndex := 221, descriptorIndex := 222, attributes := #[] }, { accessFlags := 8, nameIndex := 562, descriptorIndex := 563, attributes := #[] }])
  fields := #[{ name := "in", type := (.object "java/io/InputStream"), accessFlags := 25, slot := 0, constantValue := 0 }, { name := "out", type := (.object "java/io/PrintStream"), accessFlags := 25, slot := 1, constantValue := 0 }, { name := "err", type := (.object "java/io/PrintStream"), accessFlags := 25, slot := 2, constantValue := 0 }, { name := "initialIn", type := (.object "java/io/InputStream"), accessFlags := 10, slot := 3, constantValue := 0 }, { name := "NEVER", type := .int, accessFlags := 26, slot := 4, constantValue := 0 }, { name := "MAYBE", type := .int, accessFlags := 26, slot := 5, constantValue := 0 }, { name := "allowSecurityManager", type := .int, accessFlags := 10, slot := 6, constantValue := 0 }, { name := "security", type := (.object "java/lang/SecurityManager"), accessFlags := 74, slot := 7, constantValue := 0 }, { name := "notSupportedJnuEncoding", type := (.object "java/lang/String"), accessFlags := 10, slot := 8, constantValue := 0 }, { name := "cons", type := (.object "java/io/Console"), accessFlags := 74, slot := 9, constantValue := 0 }, { name := "initialErrStream", type := (.object "java/io/PrintStream"), accessFlags := 74, slot := 10, constantValue := 0 }, { name := "props", type := (.object "java/util/Properties"), accessFlags := 10, slot := 11, constantValue := 0 }, { name := "lineSeparator", type := (.object "java/lang/String"), accessFlags := 10, slot := 12, constantValue := 0 }, { name := "bootLayer", type := (.object "java/lang/ModuleLayer"), accessFlags := 8, slot := 13, constantValue := 0 }]
  methods := #[k5m0, k5m1]
  instanceTypes := #[]
  staticTypes := #[(.object "java/io/InputStream"), (.object "java/io/PrintStream"), (.object "java/io/PrintStream"), (.object "java/io/InputStream"), .int, .int, .int, (.object "java/lang/SecurityManager"), (.object "java/lang/String"), (.object "java/io/Console"), (.object "java/io/PrintStream"), (.object "java/util/Properties"), (.object "java/lang/String"), (.object "java/lang/ModuleLayer")]
  resolved := Array.replicate 834 none
  statics := none }

def pool6 : Array CpInfo := pool [(1, u "java/lang/Cloneable"), (0, .class_ 1), (0, u "java/lang/Object"), (0, .class_ 3)] 3

/-- java/lang/Cloneable -/
def k6 : Class := { plain "java/lang/Cloneable" (some 0) with
  accessFlags := 1537
  interfaces := #[]
  cf := some (fileOf pool6 2 #[] #[] 1537 4 #[] #[])
  fields := #[]
  methods := #[]
  instanceTypes := #[]
  staticTypes := #[]
  resolved := Array.replicate 8 none
  statics := none }

def pool7 : Array CpInfo := pool [(1, u "java/io/Serializable"), (0, .class_ 1), (0, u "java/lang/Object"), (0, .class_ 3)] 3

/-- java/io/Serializable -/
def k7 : Class := { plain "java/io/Serializable" (some 0) with
  accessFlags := 1537
  interfaces := #[]
  cf := some (fileOf pool7 2 #[] #[] 1537 4 #[] #[])
  fields := #[]
  methods := #[]
  instanceTypes := #[]
  staticTypes := #[]
  resolved := Array.replicate 8 none
  statics := none }

/-- the primitive byte -/
def k8 : Class := { plain "byte" none with kind := .primitive 'B', accessFlags := 0x411 }
/-- [B -/
def k9 : Class := { plain "[B" (some 0) with kind := .array 8 .byte, interfaces := #[6, 7], accessFlags := 1041 }

/-- the primitive int -/
def k10 : Class := { plain "int" none with kind := .primitive 'I', accessFlags := 0x411 }
/-- [I -/
def k11 : Class := { plain "[I" (some 0) with kind := .array 10 .int, interfaces := #[6, 7], accessFlags := 1041 }

/-- the primitive long -/
def k12 : Class := { plain "long" none with kind := .primitive 'J', accessFlags := 0x411 }
/-- [J -/
def k13 : Class := { plain "[J" (some 0) with kind := .array 12 .long, interfaces := #[6, 7], accessFlags := 1041 }

def heap : Heap := #[]
def classes : Array Class := #[k0, k1, k2, k3, k4, k5, k6, k7, k8, k9, k10, k11, k12, k13]
def interned : List (Array UInt16 × Addr) := []
def slotsUsed : Nat := 0
def theMethod : MethodId := ⟨1, 1⟩
def args0 : Array Value := #[.long 5, .long 300, .int 7, .int 9, .int 3, .int 4]
def aboutOver (below : List Frame) : State where
  vm := { classes := classes, interned := interned.toArray }
  heap := heap
  slotsUsed := slotsUsed
  threads := #[{ frames := .invoking theMethod args0 :: below }]
def below0 : List Frame := [.native { method := ⟨0, 0⟩, args := #[] }]
def about1 : State := aboutOver below0
def p0 : Program := .bare "" "" ""
def e0 : Env := launch0.env 0 0 0
theorem w_frames : about1.frames = Frame.invoking theMethod args0 :: below0 := rfl
set_option maxRecDepth 65536 in
theorem w_args : argsFit about1.vm theMethod args0 = true := by decide +kernel
set_option maxRecDepth 65536 in
theorem w_heap : heapFits about1 = true := by decide +kernel
set_option maxRecDepth 65536 in
theorem w_runnable : about1.curStatus? = some .runnable := by decide +kernel
set_option maxRecDepth 65536 in
theorem w_alone : about1.alone = true := by decide +kernel
set_option maxRecDepth 65536 in
theorem w_named : about1.methodNamed? x = some theMethod := by decide +kernel
set_option maxRecDepth 65536 in
theorem w_hears : about1.hears theMethod below0 = true := by decide +kernel
set_option maxRecDepth 65536 in
theorem w_ripe : about1.ripe theMethod args0 below0 = true := by decide +kernel
theorem w_running : about1.status = .running := rfl
set_option maxRecDepth 65536 in
theorem w_room : about1.hasRoom e0.platform room_1 = true :=
  launch0.hasRoom_least _ room_1 (by decide +kernel) (by decide +kernel) (by decide +kernel) (by decide +kernel) (by decide +kernel) (by decide +kernel)
theorem allAtoms_all (ts : List Jvm.Cond) (a : Array Jvm.Value) (st : Jvm.State) : (allAtoms ts).before a st = ts.all (fun c => c.before a st) := by
  induction ts with
  | nil => rfl
  | cons c t ih =>
    show (Jvm.Cond.and c (allAtoms t)).before a st = _
    rw [Jvm.Cond.before_and, ih, List.all_cons]
def words1 : List Jvm.Cond := Jvm.Cond.code x code maxLocals ret :: tables_1
/-- a 'code' word, met by the world's own term for the bytes: nothing is compared byte by byte -/
theorem code_word {y : MethodName} {bytes : ByteArray} {mx : Nat} {rt : Option FieldType} {a : Array Value} {s : State} {m : MethodId} {meth : Method} {c : Code} (h1 : s.methodNamed? y = some m) (h2 : s.vm.method? m = some meth) (h3 : meth.code = some c) (h4 : c.code = bytes)
    (h5 : (c.maxLocals == mx && c.exceptionTable.isEmpty && decide (c.maxStack ≤ mostOperands) && decide (meth.sig.returnType = rt) && !meth.locks && decide (parseMethodDescriptor y.desc = some meth.sig)) = true) : (Jvm.Cond.code y bytes mx rt).before a s = true := by
  simp only [Bool.and_eq_true, beq_iff_eq, Bool.not_eq_true', decide_eq_true_eq] at h5
  obtain ⟨⟨⟨⟨⟨g1, g2⟩, g3⟩, g4⟩, g5⟩, g6⟩ := h5
  simp [Cond.before, Cond.holds, Cond.value, h1, h2, h3, h4, g1, g2, g3, g4, g5, g6]
def isCode : Jvm.Cond → Bool
  | .code _ _ _ _ => true
  | _ => false
theorem all_split {L : List Jvm.Cond} {P : Jvm.Cond → Bool} (h1 : L.all (fun c => isCode c || P c) = true) (h2 : ∀ c ∈ L.filter isCode, P c = true) : L.all P = true := by
  refine List.all_eq_true.mpr fun c hc => ?_
  have h := List.all_eq_true.mp h1 c hc
  rcases Bool.eq_false_or_eq_true (isCode c) with hi | hi
  · exact h2 c (List.mem_filter.mpr ⟨hc, hi⟩)
  · simpa [hi] using h
set_option maxRecDepth 65536 in
theorem w_c0 : (Jvm.Cond.code x code maxLocals ret).before args0 about1 = true := code_word (m := ⟨1, 1⟩) (meth := k1m1) (c := k1c1) (by decide +kernel) rfl rfl rfl (by decide +kernel)
set_option maxRecDepth 65536 in
theorem w_c1 : (Jvm.Cond.code ({ cls := "com/example/auditspur/auditspur/core/store/Postings", name := "<init>", desc := "()V" } : Jvm.MethodName) prog_26_method_1_code (1 : Nat) (Option.none : Option Jvm.ClassFile.FieldType)).before args0 about1 = true := code_word (m := ⟨2, 0⟩) (meth := k2m0) (c := k2c0) (by decide +kernel) rfl rfl rfl (by decide +kernel)
set_option maxRecDepth 65536 in
theorem w_c2 : (Jvm.Cond.code ({ cls := "java/lang/Object", name := "<init>", desc := "()V" } : Jvm.MethodName) object_method_1_code (1 : Nat) (Option.none : Option Jvm.ClassFile.FieldType)).before args0 about1 = true := code_word (m := ⟨0, 0⟩) (meth := k0m0) (c := k0c0) (by decide +kernel) rfl rfl rfl (by decide +kernel)
set_option maxRecDepth 65536 in
theorem w_c3 : (Jvm.Cond.code ({ cls := "com/example/auditspur/auditspur/core/store/Postings", name := "add", desc := "(JI)V" } : Jvm.MethodName) prog_26_method_3_code (5 : Nat) (Option.none : Option Jvm.ClassFile.FieldType)).before args0 about1 = true := code_word (m := ⟨2, 1⟩) (meth := k2m1) (c := k2c1) (by decide +kernel) rfl rfl rfl (by decide +kernel)
set_option maxRecDepth 65536 in
theorem w_c4 : (Jvm.Cond.code ({ cls := "com/example/auditspur/auditspur/core/store/Postings", name := "slot", desc := "(J)I" } : Jvm.MethodName) prog_26_method_5_code (5 : Nat) (Option.some Jvm.ClassFile.FieldType.int)).before args0 about1 = true := code_word (m := ⟨2, 3⟩) (meth := k2m3) (c := k2c3) (by decide +kernel) rfl rfl rfl (by decide +kernel)
set_option maxRecDepth 65536 in
theorem w_c5 : (Jvm.Cond.code ({ cls := "com/example/auditspur/auditspur/core/store/Postings", name := "events", desc := "(JI)[I" } : Jvm.MethodName) prog_26_method_4_code (8 : Nat) (Option.some (Jvm.ClassFile.FieldType.array Jvm.ClassFile.FieldType.int))).before args0 about1 = true := code_word (m := ⟨2, 2⟩) (meth := k2m2) (c := k2c2) (by decide +kernel) rfl rfl rfl (by decide +kernel)
set_option maxRecDepth 65536 in
theorem w_c6 : (Jvm.Cond.code ({ cls := "java/util/Arrays", name := "copyOf", desc := "([II)[I" } : Jvm.MethodName) jdk_65_method_123_code (3 : Nat) (Option.some (Jvm.ClassFile.FieldType.array Jvm.ClassFile.FieldType.int))).before args0 about1 = true := code_word (m := ⟨3, 1⟩) (meth := k3m1) (c := k3c1) (by decide +kernel) rfl rfl rfl (by decide +kernel)
set_option maxRecDepth 65536 in
theorem w_c7 : (Jvm.Cond.code ({ cls := "java/lang/Math", name := "min", desc := "(II)I" } : Jvm.MethodName) jdk_29_method_69_code (2 : Nat) (Option.some Jvm.ClassFile.FieldType.int)).before args0 about1 = true := code_word (m := ⟨4, 1⟩) (meth := k4m1) (c := k4c1) (by decide +kernel) rfl rfl rfl (by decide +kernel)
set_option maxRecDepth 65536 in
theorem w_c8 : (Jvm.Cond.code ({ cls := "com/example/auditspur/auditspur/core/store/PostingsEventsPinLaw", name := "check", desc := "([IJJJIIII)Z" } : Jvm.MethodName) method_3_code (13 : Nat) (Option.some Jvm.ClassFile.FieldType.boolean)).before args0 about1 = true := code_word (m := ⟨1, 2⟩) (meth := k1m2) (c := k1c2) (by decide +kernel) rfl rfl rfl (by decide +kernel)
def codes1 : List Jvm.Cond := [Jvm.Cond.code x code maxLocals ret, Jvm.Cond.code ({ cls := "com/example/auditspur/auditspur/core/store/Postings", name := "<init>", desc := "()V" } : Jvm.MethodName) prog_26_method_1_code (1 : Nat) (Option.none : Option Jvm.ClassFile.FieldType), Jvm.Cond.code ({ cls := "java/lang/Object", name := "<init>", desc := "()V" } : Jvm.MethodName) object_method_1_code (1 : Nat) (Option.none : Option Jvm.ClassFile.FieldType), Jvm.Cond.code ({ cls := "com/example/auditspur/auditspur/core/store/Postings", name := "add", desc := "(JI)V" } : Jvm.MethodName) prog_26_method_3_code (5 : Nat) (Option.none : Option Jvm.ClassFile.FieldType), Jvm.Cond.code ({ cls := "com/example/auditspur/auditspur/core/store/Postings", name := "slot", desc := "(J)I" } : Jvm.MethodName) prog_26_method_5_code (5 : Nat) (Option.some Jvm.ClassFile.FieldType.int), Jvm.Cond.code ({ cls := "com/example/auditspur/auditspur/core/store/Postings", name := "events", desc := "(JI)[I" } : Jvm.MethodName) prog_26_method_4_code (8 : Nat) (Option.some (Jvm.ClassFile.FieldType.array Jvm.ClassFile.FieldType.int)), Jvm.Cond.code ({ cls := "java/util/Arrays", name := "copyOf", desc := "([II)[I" } : Jvm.MethodName) jdk_65_method_123_code (3 : Nat) (Option.some (Jvm.ClassFile.FieldType.array Jvm.ClassFile.FieldType.int)), Jvm.Cond.code ({ cls := "java/lang/Math", name := "min", desc := "(II)I" } : Jvm.MethodName) jdk_29_method_69_code (2 : Nat) (Option.some Jvm.ClassFile.FieldType.int), Jvm.Cond.code ({ cls := "com/example/auditspur/auditspur/core/store/PostingsEventsPinLaw", name := "check", desc := "([IJJJIIII)Z" } : Jvm.MethodName) method_3_code (13 : Nat) (Option.some Jvm.ClassFile.FieldType.boolean)]
set_option maxRecDepth 65536 in
theorem codes_eq : words1.filter isCode = codes1 := rfl
theorem w_codes : ∀ c ∈ words1.filter isCode, c.before args0 about1 = true := by
  rw [codes_eq]
  intro c hc
  simp only [codes1, List.mem_cons, List.not_mem_nil, or_false] at hc
  rcases hc with rfl | rfl | rfl | rfl | rfl | rfl | rfl | rfl | rfl
  · exact w_c0
  · exact w_c1
  · exact w_c2
  · exact w_c3
  · exact w_c4
  · exact w_c5
  · exact w_c6
  · exact w_c7
  · exact w_c8
set_option maxRecDepth 65536 in
theorem w_t1 : (words1.take 24).all (fun c => isCode c || c.before args0 about1) = true := by decide +kernel
set_option maxRecDepth 65536 in
theorem w_t2 : ((words1.drop 24).take 24).all (fun c => isCode c || c.before args0 about1) = true := by decide +kernel
set_option maxRecDepth 65536 in
theorem w_t3 : ((words1.drop 24).drop 24).all (fun c => isCode c || c.before args0 about1) = true := by decide +kernel
theorem w_tables : (allAtoms (Jvm.Cond.code x code maxLocals ret :: tables_1)).before args0 about1 = true := by
  rw [allAtoms_all]
  show words1.all (fun c => c.before args0 about1) = true
  refine all_split ?_ w_codes
  rw [← List.take_append_drop 24 words1, List.all_append, w_t1, ← List.take_append_drop 24 (words1.drop 24), List.all_append, w_t2, w_t3]
  rfl
set_option maxRecDepth 65536 in
theorem w_case : (Jvm.Cond.and given_1 narrow_1).before args0 about1 = true := by decide +kernel
theorem w_applies : (headSpec (Jvm.Cond.code x code maxLocals ret :: tables_1) room_1).applies x e0.platform about1 = true :=
  (Spec.applies_iff w_frames).mpr ⟨w_running, w_runnable, w_alone, w_named, w_hears, w_ripe, w_room, w_tables⟩
theorem atStart : AtStart classFile x code maxLocals ret World_1 tables_1 room_1 Calls_1 rest_1 Pre_1 launch0 p0 e0 about1 theMethod args0 below0 :=
  ⟨lists_1, trivial, launch0.admits_env _ _ _, launch0.least_env, fairChoices_fair.cas, fairChoices_fair.clock, w_frames, w_args, w_heap, w_applies, trivial, trivial, w_case⟩
end start1
theorem witness_1 : WitnessClaimed_1 := ⟨start1.p0, start1.e0, start1.about1, start1.theMethod, start1.args0, start1.below0, start1.atStart⟩
end Jvm.Pilot.@@N@@
