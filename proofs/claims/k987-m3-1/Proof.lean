import JvmDerived
import JvmDerived.Pilot.@@N@@Statement
import JvmDerived.Pilot.@@N@@Code
set_option linter.unusedVariables false
set_option linter.unusedSimpArgs false
namespace Jvm.Pilot.@@N@@
open Jvm Jvm.ClassFile Sem Op Lib Jvm.Free Jvm.Stand Jvm.LawKit Jvm.RoadKit Bundle Jvm.Pilot.@@N@@.Jvm.D
/-! my own small laws: arrays by a function of the place; returns -/
def IA (Z : State) (h : Heap) (a : Addr) (ty : FieldType) (n : Nat) (f : Nat → Int32) : Prop :=
  ∃ c : Cell, Arr Z h a c ty ∧ c.slots.size = n ∧ ∀ j, j < n → c.slots[j]? = some (.int (f j)) ∧ fits ty (.int (f j)) = true
def JA (Z : State) (h : Heap) (a : Addr) (n : Nat) (f : Nat → Int64) : Prop :=
  ∃ c : Cell, Arr Z h a c .long ∧ c.slots.size = n ∧ ∀ j, j < n → c.slots[j]? = some (.long (f j))
def upd (f : Nat → Int32) (i : Nat) (v : Int32) : Nat → Int32 := fun j => if j = i then v else f j
def updJ (f : Nat → Int64) (i : Nat) (v : Int64) : Nat → Int64 := fun j => if j = i then v else f j
def QP (r : Value) (h0 : Heap) (n0 : Nat) (v : Option Value) (h : Heap) (L : List Loc) : Prop := v = some r ∧ Fr n0 L ∧ h = h0
def QL (n0 : Nat) (v : Option Value) (h : Heap) (L : List Loc) : Prop := v = some (.int 1) ∧ Fr n0 L
section Own
variable {p : Program} {l : Launch} {e : Env} {R : Room} {s : State} {m : MethodId} {args : Array Value} {below : List Frame} {meth : Method} {c : Code} {T : State} {locs : List Loc} {cells slots : Nat} {Z : State} {h h' : Heap} {a b : Addr} {ty : FieldType} {n : Nat} {f : Nat → Int32} {fJ : Nat → Int64} {sl : Nat} {v : Value} {wl : List Addr}
theorem IA.lt (F : IA Z h a ty n f) : a < h.size := by obtain ⟨c, A, -⟩ := F; exact A.lt
theorem IA.ext (F : IA Z h a ty n f) (E : Ext h h') : IA Z h' a ty n f := by obtain ⟨c, A, r⟩ := F; exact ⟨c, A.ext E, r⟩
theorem IA.other (F : IA Z h b ty n f) (W : Wr h h' a sl v) (q : b ≠ a) : IA Z h' b ty n f := by obtain ⟨c, A, r⟩ := F; exact ⟨c, A.other W q, r⟩
theorem IA.keep (F : IA Z h a ty n f) (K : Keep h h' wl) (q : a ∉ wl) : IA Z h' a ty n f := by obtain ⟨c, A, r⟩ := F; exact ⟨c, ⟨K.2.1 a c A.1 q, A.2⟩, r⟩
theorem IA.new {k : ClassId} {z : Int32} (A : Arr Z h a (newA k ty z) ty) (hd : defaultValue ty = .int 0) (hf : fits ty (.int 0) = true) (hz : z.toNatClampNeg = n) : IA Z h a ty n (fun _ => 0) := by
  refine ⟨_, A, by rw [sz_new, hz], fun j hj => ⟨?_, hf⟩⟩
  have : j < z.toNatClampNeg := by rw [hz]; exact hj
  simp [newA, hd, this]
theorem IA.set {c : Cell} (A : Arr Z h a c ty) (S : c.slots.size = n) (H : ∀ j, j < n → c.slots[j]? = some (.int (f j)) ∧ fits ty (.int (f j)) = true) {x : Int32} (hv : fits ty (.int x) = true) {i : Nat} (W : Wr h h' a i (.int x)) (hi : i < n) : IA Z h' a ty n (upd f i x) := by
  refine ⟨_, A.same W, by rw [sz_set, S], fun j hj => ?_⟩
  unfold upd
  by_cases q : j = i
  · subst q; simp [Cell.setSlot, S, hi, hv]
  · have := H j hj
    rw [if_neg q]
    refine ⟨?_, this.2⟩
    rw [← this.1]
    show (c.slots.setIfInBounds i (.int x))[j]? = _
    exact Array.getElem?_setIfInBounds_ne (Ne.symm q)
theorem JA.lt (F : JA Z h a n fJ) : a < h.size := by obtain ⟨c, A, -⟩ := F; exact A.lt
theorem JA.ext (F : JA Z h a n fJ) (E : Ext h h') : JA Z h' a n fJ := by obtain ⟨c, A, r⟩ := F; exact ⟨c, A.ext E, r⟩
theorem JA.other (F : JA Z h b n fJ) (W : Wr h h' a sl v) (q : b ≠ a) : JA Z h' b n fJ := by obtain ⟨c, A, r⟩ := F; exact ⟨c, A.other W q, r⟩
theorem JA.keep (F : JA Z h a n fJ) (K : Keep h h' wl) (q : a ∉ wl) : JA Z h' a n fJ := by obtain ⟨c, A, r⟩ := F; exact ⟨c, ⟨K.2.1 a c A.1 q, A.2⟩, r⟩
theorem JA.new {k : ClassId} {z : Int32} (A : Arr Z h a (newA k .long z) .long) (hz : z.toNatClampNeg = n) : JA Z h a n (fun _ => 0) := by
  refine ⟨_, A, by rw [sz_new, hz], fun j hj => ?_⟩
  have : j < z.toNatClampNeg := by rw [hz]; exact hj
  simp [newA, defaultValue, this]
theorem JA.set {c : Cell} (A : Arr Z h a c .long) (S : c.slots.size = n) (H : ∀ j, j < n → c.slots[j]? = some (.long (fJ j))) {x : Int64} {i : Nat} (W : Wr h h' a i (.long x)) (hi : i < n) : JA Z h' a n (updJ fJ i x) := by
  refine ⟨_, A.same W, by rw [sz_set, S], fun j hj => ?_⟩
  unfold updJ
  by_cases q : j = i
  · subst q; simp [Cell.setSlot, S, hi]
  · rw [if_neg q, ← H j hj]
    show (c.slots.setIfInBounds i (.long x))[j]? = _
    exact Array.getElem?_setIfInBounds_ne (Ne.symm q)
theorem stBA (X : Stand p l e R s m args below meth c T locs cells slots) (hx : p.tables.exec = Jvm.exec) (hZ : Z.Warmed39 s.vm) (eT : T.heap = h) (V : IA Z h a .byte n f) {j x : Int32} (hj : ¬ (j < 0 ∨ n ≤ j.toNatClampNeg)) {g : JFrame} (hg : g.method = m) {rest : List Value} (hs : g.stack = .int x :: .int j :: .ref a :: rest) (hd : decode c.code g.pc = .ok (.bastore, 1)) :
    ∃ T' h', Stand p l e R s m args below meth c T' (locs ++ [⟨a, j.toNatClampNeg⟩]) cells slots ∧ T'.heap = h' ∧ (∃ sl v, Wr h h' a sl v) ∧ IA Z h' a .byte n (upd f j.toNatClampNeg (nar .byte x)) ∧ ∀ target, Steps p.tables e below (T'.setTop { g with pc := g.pc + 1, stack := rest }) target → Steps p.tables e below (T.setTop g) target := by
  obtain ⟨cl, A, S, H⟩ := V
  obtain ⟨T', h', X', e', W, st⟩ := stB X hx hZ eT A (j := j) (x := x) (by rw [S]; exact hj) hg hs hd
  exact ⟨T', h', X', e', ⟨_, _, W⟩, IA.set A S H (fits_nar_byte _) W (Nat.lt_of_not_le fun q => hj (Or.inr q)), st⟩
theorem stIA (X : Stand p l e R s m args below meth c T locs cells slots) (hx : p.tables.exec = Jvm.exec) (hZ : Z.Warmed39 s.vm) (eT : T.heap = h) (V : IA Z h a .int n f) {j x : Int32} (hj : ¬ (j < 0 ∨ n ≤ j.toNatClampNeg)) {g : JFrame} (hg : g.method = m) {rest : List Value} (hs : g.stack = .int x :: .int j :: .ref a :: rest) (hd : decode c.code g.pc = .ok (.iastore, 1)) :
    ∃ T' h', Stand p l e R s m args below meth c T' (locs ++ [⟨a, j.toNatClampNeg⟩]) cells slots ∧ T'.heap = h' ∧ (∃ sl v, Wr h h' a sl v) ∧ IA Z h' a .int n (upd f j.toNatClampNeg x) ∧ ∀ target, Steps p.tables e below (T'.setTop { g with pc := g.pc + 1, stack := rest }) target → Steps p.tables e below (T.setTop g) target := by
  obtain ⟨cl, A, S, H⟩ := V
  obtain ⟨T', h', X', e', W, st⟩ := stI X hx hZ eT A (j := j) (x := x) (by rw [S]; exact hj) hg hs hd
  exact ⟨T', h', X', e', ⟨_, _, W⟩, IA.set A S H rfl W (Nat.lt_of_not_le fun q => hj (Or.inr q)), st⟩
theorem stJA (X : Stand p l e R s m args below meth c T locs cells slots) (hx : p.tables.exec = Jvm.exec) (hZ : Z.Warmed39 s.vm) (eT : T.heap = h) (V : JA Z h a n fJ) {j : Int32} {x : Int64} (hj : ¬ (j < 0 ∨ n ≤ j.toNatClampNeg)) {g : JFrame} (hg : g.method = m) {rest : List Value} (hs : g.stack = .long x :: .int j :: .ref a :: rest) (hd : decode c.code g.pc = .ok (.lastore, 1)) :
    ∃ T' h', Stand p l e R s m args below meth c T' (locs ++ [⟨a, j.toNatClampNeg⟩]) cells slots ∧ T'.heap = h' ∧ (∃ sl v, Wr h h' a sl v) ∧ JA Z h' a n (updJ fJ j.toNatClampNeg x) ∧ ∀ target, Steps p.tables e below (T'.setTop { g with pc := g.pc + 1, stack := rest }) target → Steps p.tables e below (T.setTop g) target := by
  obtain ⟨cl, A, S, H⟩ := V
  obtain ⟨T', h', X', e', W, st⟩ := stJ X hx hZ eT A (j := j) (x := x) (by rw [S]; exact hj) hg hs hd
  exact ⟨T', h', X', e', ⟨_, _, W⟩, JA.set A S H W (Nat.lt_of_not_le fun q => hj (Or.inr q)), st⟩
theorem ldBA (X : Stand p l e R s m args below meth c T locs cells slots) (hx : p.tables.exec = Jvm.exec) (hZ : Z.Warmed39 s.vm) (eT : T.heap = h) (V : IA Z h a .byte n f) {j : Int32} (hj : ¬ (j < 0 ∨ n ≤ j.toNatClampNeg)) {g : JFrame} (hg : g.method = m) {rest : List Value} (hs : g.stack = .int j :: .ref a :: rest) (hd : decode c.code g.pc = .ok (.baload, 1)) :
    ∀ target, Steps p.tables e below (T.setTop { g with pc := g.pc + 1, stack := .int (f j.toNatClampNeg) :: rest }) target → Steps p.tables e below (T.setTop g) target := by
  obtain ⟨cl, A, S, H⟩ := V
  exact X.baloadBytes hx (by rw [eT]; exact A.1) (State.isArrayOf_alike hZ.alike A.2.1) A.2.2 (by rw [S]; exact hj) (H _ (Nat.lt_of_not_le fun q => hj (Or.inr q))).1 hg hs hd
theorem ldIA (X : Stand p l e R s m args below meth c T locs cells slots) (hx : p.tables.exec = Jvm.exec) (hZ : Z.Warmed39 s.vm) (eT : T.heap = h) (V : IA Z h a .int n f) {j : Int32} (hj : ¬ (j < 0 ∨ n ≤ j.toNatClampNeg)) {g : JFrame} (hg : g.method = m) {rest : List Value} (hs : g.stack = .int j :: .ref a :: rest) (hd : decode c.code g.pc = .ok (.iaload, 1)) :
    ∀ target, Steps p.tables e below (T.setTop { g with pc := g.pc + 1, stack := .int (f j.toNatClampNeg) :: rest }) target → Steps p.tables e below (T.setTop g) target := by
  obtain ⟨cl, A, S, H⟩ := V
  exact X.iaload hx (by rw [eT]; exact A.1) (State.isArrayOf_alike hZ.alike A.2.1) A.2.2 (by rw [S]; exact hj) (H _ (Nat.lt_of_not_le fun q => hj (Or.inr q))).1 hg hs hd
theorem ldJA (X : Stand p l e R s m args below meth c T locs cells slots) (hx : p.tables.exec = Jvm.exec) (hZ : Z.Warmed39 s.vm) (eT : T.heap = h) (V : JA Z h a n fJ) {j : Int32} (hj : ¬ (j < 0 ∨ n ≤ j.toNatClampNeg)) {g : JFrame} (hg : g.method = m) {rest : List Value} (hs : g.stack = .int j :: .ref a :: rest) (hd : decode c.code g.pc = .ok (.laload, 1)) :
    ∀ target, Steps p.tables e below (T.setTop { g with pc := g.pc + 1, stack := .long (fJ j.toNatClampNeg) :: rest }) target → Steps p.tables e below (T.setTop g) target := by
  obtain ⟨cl, A, S, H⟩ := V
  exact X.laload hx (by rw [eT]; exact A.1) (State.isArrayOf_alike hZ.alike A.2.1) A.2.2 (by rw [S]; exact hj) (H _ (Nat.lt_of_not_le fun q => hj (Or.inr q))) hg hs hd
theorem lnIA (X : Stand p l e R s m args below meth c T locs cells slots) (hx : p.tables.exec = Jvm.exec) (hZ : Z.Warmed39 s.vm) (eT : T.heap = h) (V : IA Z h a ty n f) {z : Int32} (hz : n.toInt32 = z) {g : JFrame} (hg : g.method = m) {rest : List Value} (hs : g.stack = .ref a :: rest) (hd : decode c.code g.pc = .ok (.arraylength, 1)) :
    ∀ target, Steps p.tables e below (T.setTop { g with pc := g.pc + 1, stack := .int z :: rest }) target → Steps p.tables e below (T.setTop g) target := by
  obtain ⟨cl, A, S, H⟩ := V
  intro t k
  refine X.arraylength hx (by rw [eT]; exact A.1) (State.isArrayOf_alike hZ.alike A.2.1) hg hs hd t ?_
  rw [S, hz]; exact k
theorem lnJA (X : Stand p l e R s m args below meth c T locs cells slots) (hx : p.tables.exec = Jvm.exec) (hZ : Z.Warmed39 s.vm) (eT : T.heap = h) (V : JA Z h a n fJ) {z : Int32} (hz : n.toInt32 = z) {g : JFrame} (hg : g.method = m) {rest : List Value} (hs : g.stack = .ref a :: rest) (hd : decode c.code g.pc = .ok (.arraylength, 1)) :
    ∀ target, Steps p.tables e below (T.setTop { g with pc := g.pc + 1, stack := .int z :: rest }) target → Steps p.tables e below (T.setTop g) target := by
  obtain ⟨cl, A, S, H⟩ := V
  intro t k
  refine X.arraylength hx (by rw [eT]; exact A.1) (State.isArrayOf_alike hZ.alike A.2.1) hg hs hd t ?_
  rw [S, hz]; exact k
theorem retI (X : Stand p l e R s m args below meth c T locs cells slots) (hx : p.tables.exec = Jvm.exec) {pc : Nat} {Ls : Array Slot} {z : Int32} {rest : List Value} (hret : meth.sig.returnType = some .int) (hd : decode c.code pc = .ok (.ireturn, 1)) {fs : List Frame}
    (hl : ∀ (f : JFrame) (acts : List Action), f.method = m → f.locked = none → f.entered = [] → (doReturn e (T.setTop f) acts (some (.int z))).1 = T.setFrames fs) : Steps p.tables e below (T.setTop (mkF m pc Ls (.int z :: rest))) (T.setFrames fs) :=
  retOut X hx hret rfl (Or.inl ⟨rfl, Or.inl rfl, z, rfl⟩) hd hl
end Own
/-! numbers -/
theorem own_small {v : Int32} (n : Nat) (h0 : 0 ≤ v.toInt) (h1 : v.toInt < n) : ∃ k : Fin n, v = Int32.ofNat k.val := by
  refine ⟨⟨v.toInt.toNat, by omega⟩, ?_⟩
  apply Int32.toInt_inj.mp
  have := v.toInt_lt
  show v.toInt = (Int32.ofNat v.toInt.toNat).toInt
  rw [Int32.toInt_ofNat_of_lt (by omega)]
  omega
theorem own_mask31 (x : Int32) : 0 ≤ (x &&& (2147483647 : Int32)).toInt ∧ (x &&& (2147483647 : Int32)).toInt = x.toInt % 2147483648 := by
  have h : (x &&& (2147483647 : Int32)).toInt = x.toInt % (2 ^ 31 : Nat) := c_mask x 2147483647 31 (by decide) (by decide)
  omega
theorem own_mod (x : Int32) (d : Int32) (n : Nat) (hd : d.toInt = n) (hn : 0 < n) : ∃ k : Fin n, (x &&& (2147483647 : Int32)) % d = Int32.ofNat k.val := by
  apply own_small
  · rw [Int32.toInt_mod]; exact Int.tmod_nonneg _ (own_mask31 x).1
  · rw [Int32.toInt_mod, hd]; exact Int.tmod_lt_of_pos _ (by omega)
theorem own_ofNat_toInt {n : Nat} (h : n < 2147483648) : (Int32.ofNat n).toInt = n := Int32.toInt_ofNat_of_lt (by omega)
theorem own_ofNat_lt {a b : Nat} (ha : a < 2147483648) (hb : b < 2147483648) : Int32.ofNat a < Int32.ofNat b ↔ a < b := by
  rw [Int32.lt_iff_toInt_lt, own_ofNat_toInt ha, own_ofNat_toInt hb]; omega
theorem own_ofNat_nat {n : Nat} (h : n < 2147483648) : (Int32.ofNat n).toNatClampNeg = n := by
  show (Int32.ofNat n).toInt.toNat = n
  rw [own_ofNat_toInt h]; omega
theorem own_ofNat_in {n len : Nat} (h : n < len) (hl : len ≤ 2147483648) : ¬ (Int32.ofNat n < 0 ∨ len ≤ (Int32.ofNat n).toNatClampNeg) := by
  rw [own_ofNat_nat (by omega), Int32.lt_iff_toInt_lt, own_ofNat_toInt (by omega)]
  have e : (0 : Int32).toInt = 0 := by decide
  rw [e]; omega
theorem own_ofNat_succ (n : Nat) : Int32.ofNat n + 1 = Int32.ofNat (n + 1) := by rw [Int32.ofNat_add]; rfl
/-! arrays by a function: as the library's lists, copied by System.arraycopy, cloned -/
section Own2
variable {p : Program} {l : Launch} {e : Env} {R : Room} {s : State} {m : MethodId} {args : Array Value} {below : List Frame} {meth : Method} {c : Code} {T : State} {locs : List Loc} {cells slots : Nat} {Z : State} {h h' : Heap} {a b : Addr} {ty : FieldType} {n : Nat} {f : Nat → Int32}
theorem IA.mono {n' : Nat} {g : Nat → Int32} (F : IA Z h a ty n f) (e : n' = n) (q : ∀ j, j < n' → g j = f j) : IA Z h a ty n' g := by
  subst e
  obtain ⟨c, A, S, H⟩ := F
  exact ⟨c, A, S, fun j hj => by rw [q j hj]; exact H j hj⟩
theorem own_getD (f : Nat → Int32) (n j : Nat) (h : j < n) (d : Value) : ((List.range n).map fun j => Value.int (f j)).getD j d = .int (f j) := by
  simp [List.getD_eq_getElem?_getD, h]
theorem IA.arv (F : IA Z h a ty n f) (hn : n < 2147483648) : ∃ k, Arv Z h a k ty (Int32.ofNat n) ((List.range n).map fun j => Value.int (f j)) (.int 0) := by
  obtain ⟨c, A, S, H⟩ := F
  have e : (Int32.ofNat n).toNatClampNeg = n := own_ofNat_nat hn
  have z : ¬ Int32.ofNat n < 0 := by
    rw [Int32.lt_iff_toInt_lt, own_ofNat_toInt hn]; have : (0 : Int32).toInt = 0 := by decide
    omega
  refine ⟨c.cls, c, A, rfl, by rw [e, S], z, fun j hj => ?_, fun j hj => ?_⟩
  · rw [S] at hj; rw [own_getD f n j hj]; exact (H j hj).1
  · rw [S] at hj; rw [own_getD f n j hj]; exact (H j hj).2
theorem IA.of_arv {k : ClassId} {vs : List Value} {dv : Value} (F : Arv Z h a k ty (Int32.ofNat n) vs dv) (hn : n < 2147483648) (H : ∀ j, j < n → vs.getD j dv = .int (f j)) : IA Z h a ty n f := by
  obtain ⟨c, A, -, S, -, V, G⟩ := F
  rw [own_ofNat_nat hn] at S
  refine ⟨c, A, S, fun j hj => ⟨?_, ?_⟩⟩
  · rw [V j (by omega), H j hj]
  · have := G j (by omega); rw [H j hj] at this; exact this
theorem cpIA (X : Stand p l e R s m args below meth c T locs cells slots) (hx : p.tables.exec = Jvm.exec) (hZ : Z.Warmed39 s.vm) {a0 : Array Value} {own : String} {index : Nat} (hown : s.vm.findClass own = some m.cls)
    (w1 : (Cond.methodLink own index Jvm.Stand.acN).before a0 Z = true) (w2 : (Cond.native Jvm.Stand.acN).before a0 Z = true) (w3 : (Cond.static Jvm.Stand.acN).before a0 Z = true) (w4 : (Cond.initialized "java/lang/System").before a0 Z = true) (eT : T.heap = h)
    {n' : Nat} {f' : Nat → Int32} (A : IA Z h a ty n f) (B : IA Z h b ty n' f') (hty : refKind ty = false) (hn : n < 2147483648) (hn' : n' < 2147483648) {k : Nat} {nn : Int32} (hk : nn = Int32.ofNat k) (h4 : k ≤ n) (h5 : k ≤ n') {n0 : Nat} (N : Fr n0 locs) (ge : n0 ≤ b)
    {g : JFrame} (hg : g.method = m) (hsize : g.locals.size = c.maxLocals) {rest : List Value} (hs : g.stack = .int nn :: .int 0 :: .ref b :: .int 0 :: .ref a :: rest) (hd : decode c.code g.pc = .ok (.invokestatic index, 3))
    (hf : 1 ≤ R.frames) {W : Nat} (hW : 2 * g.monitorRoom + (rest.map fun v => v.category).sum ≤ W) (hlo : W + (nativeFrameWords "java/lang/System" "arraycopy" 5 + 11) ≤ R.locals) :
    ∃ T' h' L, Stand p l e R s m args below meth c T' L cells slots ∧ T'.heap = h' ∧ Fr n0 L ∧ Keep h h' [b] ∧ IA Z h' b ty n' (fun j => if j < k then f j else f' j) ∧
      ∀ target, Steps p.tables e below (T'.setTop { g with pc := g.pc + 3, stack := rest }) target → Steps p.tables e below (T.setTop g) target := by
  obtain ⟨ka, VA⟩ := A.arv hn
  obtain ⟨kb, VB⟩ := B.arv hn'
  have ek : nn.toNatClampNeg = k := by rw [hk]; exact own_ofNat_nat (by omega)
  have e0 : (0 : Int32).toNatClampNeg = 0 := by decide
  have nk : ¬ nn < 0 := by
    rw [hk, Int32.lt_iff_toInt_lt, own_ofNat_toInt (by omega)]; have : (0 : Int32).toInt = 0 := by decide
    omega
  obtain ⟨T', h', L, X', e', N', K, V, st⟩ := cpA X hx hZ hown w1 w2 w3 w4 eT VA VB (Or.inl ⟨rfl, hty⟩) (sp := 0) (dp := 0) (nn := nn) (by decide) (by decide) nk (by rw [ek, e0, own_ofNat_nat hn]; omega) (by rw [ek, e0, own_ofNat_nat hn']; omega) rfl (by rw [ek, e0]; simp; omega) N ge hg hsize hs hd hf hW hlo
  refine ⟨T', h', L, X', e', N', K, IA.of_arv V hn' fun j hj => ?_, st⟩
  rw [ek, e0]
  simp only [List.take_zero, List.nil_append, Nat.zero_add]
  by_cases q : j < k
  · have hj' : j < n := by omega
    rw [if_pos q, List.getD_eq_getElem?_getD, List.getElem?_append_left (by simpa using q)]
    simp [q, hj']
  · rw [if_neg q, List.getD_eq_getElem?_getD, List.getElem?_append_right (by simpa using q)]
    have e1 : k + (j - k) = j := by omega
    simp [e1, hj]
theorem clIA (X : Stand p l e R s m args below meth c T locs cells slots) (hx : p.tables.exec = Jvm.exec) (hZ : Z.Warmed39 s.vm) {a0 : Array Value} {own ad : String} {index : Nat} (hown : s.vm.findClass own = some m.cls)
    (w1 : (Cond.methodLink own index ⟨ad, "clone", "()Ljava/lang/Object;"⟩).before a0 Z = true) (w2 : (Cond.sameMethod ad "java/lang/Object" "clone" "()Ljava/lang/Object;").before a0 Z = true) (w3 : (Cond.native ⟨"java/lang/Object", "clone", "()Ljava/lang/Object;"⟩).before a0 Z = true)
    (w4 : (Cond.instanceMethod ⟨"java/lang/Object", "clone", "()Ljava/lang/Object;"⟩).before a0 Z = true) (w5 : (Cond.selects ad ⟨ad, "clone", "()Ljava/lang/Object;"⟩ ⟨"java/lang/Object", "clone", "()Ljava/lang/Object;"⟩).before a0 Z = true) (w6 : (Cond.castable ad "java/lang/Cloneable").before a0 Z = true)
    (eT : T.heap = h) (F : IA Z h a ty n f) (hn : n < 2147483648) (E : Exa Z h a ad) {g : JFrame} (hg : g.method = m) (hsize : g.locals.size = c.maxLocals) {rest : List Value} (hst : g.stack = .ref a :: rest) (hd : decode c.code g.pc = .ok (.invokevirtual index, 3))
    (hf : 1 ≤ R.frames) {W cap : Nat} (hW : 2 * g.monitorRoom + (rest.map fun v => v.category).sum ≤ W) (hl : W + 14 ≤ R.locals) (hcap : n ≤ cap) (hc : cells + 1 ≤ R.cells) (hsl : slots + cap ≤ R.slots) :
    ∃ T' h', Stand p l e R s m args below meth c T' locs (cells + 1) (slots + cap) ∧ T'.heap = h' ∧ Ext h h' ∧ IA Z h' h.size ty n f ∧ Exa Z h' h.size ad ∧
      ∀ target, Steps p.tables e below (T'.setTop { g with pc := g.pc + 3, stack := .ref h.size :: rest }) target → Steps p.tables e below (T.setTop g) target := by
  obtain ⟨k, V⟩ := F.arv hn
  obtain ⟨T', h', X', e', Ex, V', E', st⟩ := cloneH X hx hZ hown w1 w2 w3 w4 w5 w6 eT V.arh E hg hsize hst hd hf hW hl (by rw [own_ofNat_nat hn]; exact hcap) hc hsl
  refine ⟨T', h', X', e', Ex, ?_, E', st⟩
  have V2 : Arv Z h' h.size k ty (Int32.ofNat n) ((List.range n).map fun j => Value.int (f j)) (.int 0) := V'
  exact IA.of_arv V2 hn fun j hj => own_getD f n j hj _
end Own2
/-- a private method selects itself -/
theorem own_selp {Z s : State} {a0 args : Array Value} {y : MethodName} {n : Nat} (hZ : Z.Warmed39 s.vm) (wi : (Cond.instantiable y.cls n).before a0 Z = true) (wm : (Cond.instanceMethod y).before a0 Z = true) (wp : (Cond.privateMethod y).before a0 Z = true) (hy : y.cls ≠ "java/lang/invoke/MethodHandle" ∧ y.cls ≠ "java/lang/invoke/VarHandle") : (Cond.selects y.cls y y).before args s = true := by
  obtain ⟨c, k, h1, h2, h3, h4, -, -⟩ := Cond.instantiable_spec (mv (args := args) hZ wi)
  rw [Bool.or_eq_false_iff] at h4
  exact selects_self_of_private h1 h2 h4.1 (Cond.privateMethod_at (mvP (args := args) hZ wp)) (mv hZ wm) hy
def QC (Z : State) (n : Nat) (fa : Nat → Int32) (h0 : Heap) (n0 : Nat) (v : Option Value) (h : Heap) (L : List Loc) : Prop := ∃ b : Addr, v = some (.ref b) ∧ Fr n0 L ∧ Keep h0 h [] ∧ h0.size ≤ b ∧ Exa Z h b "[B" ∧ IA Z h b .byte n fa
def QI (Z : State) (r0 r1 : Addr) (h0 : Heap) (n0 : Nat) (v : Option Value) (h : Heap) (L : List Loc) : Prop := v = none ∧ Fr n0 L ∧ Keep h0 h [r0] ∧ Exa Z h r0 "com/example/trimhash/trimhash/HashPrefix" ∧ Fld Z h r0 "com/example/trimhash/trimhash/HashPrefix" "bytes" "[B" (.ref r1)
def QO (Z : State) (n : Nat) (fa : Nat → Int32) (h0 : Heap) (n0 : Nat) (v : Option Value) (h : Heap) (L : List Loc) : Prop := ∃ o b : Addr, v = some (.ref o) ∧ Fr n0 L ∧ Keep h0 h [] ∧ h0.size ≤ o ∧ Exa Z h o "com/example/trimhash/trimhash/HashPrefix" ∧ Fld Z h o "com/example/trimhash/trimhash/HashPrefix" "bytes" "[B" (.ref b) ∧ Exa Z h b "[B" ∧ IA Z h b .byte n fa
theorem own_ne32 {p1 : Int32} {n : Nat} (hp1 : p1 = Int32.ofNat n) (hn : n < 32) : ¬ p1 = (32 : Int32) := by
  intro q; have := congrArg Int32.toNatClampNeg q; rw [hp1, own_ofNat_nat (by omega)] at this
  have e : (32 : Int32).toNatClampNeg = 32 := by decide
  omega
theorem own_nn {p1 : Int32} {n : Nat} (hp1 : p1 = Int32.ofNat n) (hn : n < 32) : ¬ p1 < 0 := by
  rw [hp1, Int32.lt_iff_toInt_lt, own_ofNat_toInt (by omega)]; have : (0 : Int32).toInt = 0 := by decide
  omega
theorem own_len {p1 : Int32} {n : Nat} (hp1 : p1 = Int32.ofNat n) (hn : n < 32) : p1.toNatClampNeg = n := by rw [hp1]; exact own_ofNat_nat (by omega)
theorem min_d0 : decode jdk_29_method_69_code 0 = .ok (.iload_n 0, 1) := by decide +kernel
theorem min_d1 : decode jdk_29_method_69_code 1 = .ok (.iload_n 1, 1) := by decide +kernel
theorem min_d2 : decode jdk_29_method_69_code 2 = .ok (.if_icmp .gt 7, 3) := by decide +kernel
theorem min_d5 : decode jdk_29_method_69_code 5 = .ok (.iload_n 0, 1) := by decide +kernel
theorem min_d6 : decode jdk_29_method_69_code 6 = .ok (.goto 4, 3) := by decide +kernel
theorem min_d9 : decode jdk_29_method_69_code 9 = .ok (.iload_n 1, 1) := by decide +kernel
theorem min_d10 : decode jdk_29_method_69_code 10 = .ok (.ireturn, 1) := by decide +kernel
theorem min_ef (m : MethodId) (x0 : Int32) (x1 : Int32) : entryFrame m #[(.int x0), (.int x1)] 2 = mkF m 0 #[.val (.int x0), .val (.int x1)] [] := by first | (simp [entryFrame, mkF, argsToLocals, Value.category]; done) | rfl
def fMin (p0 : Int32) (p1 : Int32) : Int32 :=
  let j10_s0 : Int32 := (if p1 < p0 then p1 else p0)
  j10_s0
set_option maxRecDepth 65536 in
set_option maxHeartbeats 40000000 in
theorem rm_min (l : Launch) (Z : State) (a0 : Array Value) (hw : ∀ d ∈ tables_1, d.before a0 Z = true) (ws : List Jvm.Cond) (p0 : Int32) (p1 : Int32) (h0 : Heap) (n0 : Nat) (Z0 : n0 ≤ h0.size) :
    MetFree l (⟨"java/lang/Math", "min", "(II)I"⟩ : MethodName) (head1 (Jvm.Cond.code (⟨"java/lang/Math", "min", "(II)I"⟩ : MethodName) jdk_29_method_69_code 2 (some .int) :: ws) ({ frames := 0, cells := 0, slots := 0, locals := 0 } : Room)) (fun a U => a = #[(.int p0), (.int p1)] ∧ Z.Warmed39 U.vm ∧ U.heap = h0) (fun _ _ _ _ _ => True) (fun _ U o U' => ∃ v L, o = .returned v ∧ QP (.int (fMin p0 p1)) h0 n0 v U'.heap L ∧ FrameEnd U o U' L ({ frames := 0, cells := 0, slots := 0, locals := 0 } : Room).cells ({ frames := 0, cells := 0, slots := 0, locals := 0 } : Room).slots) := by
  refine MetFree.of_bodySF (Jvm.Free.JP.mathPlain rfl (by decide +kernel)) hisR ?_
  intro p e s m args below meth c s₁ Bd hml0 hP hK
  obtain ⟨rfl, hZ, hh⟩ := hP
  have hx := Bd.exec
  have hby := Bd.bytes
  have hml : c.maxLocals = 2 := hml0
  have hown : s.vm.findClass "java/lang/Math" = some m.cls := findClass_of_methodNamed Bd.named
  have hnm := (name_of_methodNamed Bd.named Bd.method).1
  have X0 : Stand p l e ({ frames := 0, cells := 0, slots := 0, locals := 0 } : Room) s m #[(.int p0), (.int p1)] below meth c s₁ [] 0 0 := Stand.of_body Bd
  have e0 : s₁.heap = h0 := by rw [← hh, Bd.state]; rfl
  have N0 := Fr.nil n0
  obtain ⟨P0, hP0⟩ : ∃ P0 : State → Prop, P0 = fun t => Steps p.tables e below (s₁.setTop (entryFrame m #[(.int p0), (.int p1)] 2)) t := ⟨_, rfl⟩
  have K0 : ∀ t, Steps p.tables e below (s₁.setTop (mkF m 0 #[.val (.int p0), .val (.int p1)] [])) t → P0 t := by
    intro t k; rw [hP0]; exact castTop (min_ef m p0 p1) k
  have K1 : ∀ t, Steps p.tables e below (s₁.setTop (mkF m 2 #[.val (.int p0), .val (.int p1)] [(.int p1), (.int p0)])) t → P0 t := by
    intro t kt
    refine K0 t ?_
    show Steps p.tables e below (s₁.setTop (mkF m 0 #[.val (.int p0), .val (.int p1)] [])) t
    refine XS.iloadN X0.here hx rfl (hb hby min_d0) rfl ?_
    show Steps p.tables e below (s₁.setTop (mkF m 1 #[.val (.int p0), .val (.int p1)] [(.int p0)])) t
    refine XS.iloadN X0.here hx rfl (hb hby min_d1) rfl ?_
    exact kt
  obtain ⟨j10_s0, hj10_s0, K4⟩ : ∃ (j10_s0 : Int32), j10_s0 = (if p1 < p0 then p1 else p0) ∧ ∀ t, Steps p.tables e below (s₁.setTop (mkF m 10 #[.val (.int p0), .val (.int p1)] [(.int j10_s0)])) t → P0 t := by
    by_cases hc2 : p1 < p0
    · have K2 : ∀ t, Steps p.tables e below (s₁.setTop (mkF m 10 #[.val (.int p0), .val (.int p1)] [(.int p1)])) t → P0 t := by
        intro t kt
        refine K1 t ?_
        show Steps p.tables e below (s₁.setTop (mkF m 2 #[.val (.int p0), .val (.int p1)] [(.int p1), (.int p0)])) t
        refine XS.icmpYes X0.here hx rfl (pc0 := 2) (pc' := 9) rfl (hb hby min_d2) rfl (tlt hc2).2.2.1 (by decide) (by decide) ?_
        show Steps p.tables e below (s₁.setTop (mkF m 9 #[.val (.int p0), .val (.int p1)] [])) t
        refine XS.iloadN X0.here hx rfl (hb hby min_d9) rfl ?_
        exact kt
      exact ⟨_, (if_pos hc2).symm, K2⟩
    · have K3 : ∀ t, Steps p.tables e below (s₁.setTop (mkF m 10 #[.val (.int p0), .val (.int p1)] [(.int p0)])) t → P0 t := by
        intro t kt
        refine K1 t ?_
        show Steps p.tables e below (s₁.setTop (mkF m 2 #[.val (.int p0), .val (.int p1)] [(.int p1), (.int p0)])) t
        refine XS.icmpNo X0.here hx rfl (hb hby min_d2) rfl (flt hc2).2.2.1 ?_
        show Steps p.tables e below (s₁.setTop (mkF m 5 #[.val (.int p0), .val (.int p1)] [])) t
        refine XS.iloadN X0.here hx rfl (hb hby min_d5) rfl ?_
        show Steps p.tables e below (s₁.setTop (mkF m 6 #[.val (.int p0), .val (.int p1)] [(.int p0)])) t
        refine XS.goto X0.here hx rfl (pc0 := 6) (pc' := 10) rfl (hb hby min_d6) (by decide) (by decide) ?_
        exact kt
      exact ⟨_, (if_neg hc2).symm, K3⟩
  obtain ⟨fs, hr, hrun, hended, hW, hsame⟩ := X0.leave (v := some (.int j10_s0)) (fun h => by rw [Bd.returns] at h; cases h)
  refine ⟨_, _, ?_, hrun, hended, _, _, rfl, ?_, ⟨_, rfl⟩, hW, hsame.mono (by decide) (by decide)⟩
  · skip
    have q := K4 _ (retI X0 hx Bd.returns (hb hby min_d10) hr)
    rw [hP0] at q; exact q
  · show QP (.int (fMin p0 p1)) h0 n0 _ s₁.heap _
    rw [e0]
    subst hj10_s0
    exact ⟨rfl, N0, rfl⟩
theorem own_min {p1 : Int32} {n : Nat} (hp1 : p1 = Int32.ofNat n) (hn : n < 32) : fMin (32 : Int32) p1 = Int32.ofNat n := by
  have q : p1 < (32 : Int32) := by
    rw [hp1, Int32.lt_iff_toInt_lt, own_ofNat_toInt (by omega)]; have : (32 : Int32).toInt = 32 := by decide
    omega
  simp only [fMin]
  rw [if_pos q]; exact hp1
theorem ref_d0 : decode method_2_code 0 = .ok (.iload 8, 2) := by decide +kernel
theorem ref_d2 : decode method_2_code 2 = .ok (.bipush 8, 2) := by decide +kernel
theorem ref_d4 : decode method_2_code 4 = .ok (.if_icmp .ge 9, 3) := by decide +kernel
theorem ref_d7 : decode method_2_code 7 = .ok (.lload_n 0, 1) := by decide +kernel
theorem ref_d8 : decode method_2_code 8 = .ok (.lstore 9, 2) := by decide +kernel
theorem ref_d10 : decode method_2_code 10 = .ok (.goto 34, 3) := by decide +kernel
theorem ref_d13 : decode method_2_code 13 = .ok (.iload 8, 2) := by decide +kernel
theorem ref_d15 : decode method_2_code 15 = .ok (.bipush 16, 2) := by decide +kernel
theorem ref_d17 : decode method_2_code 17 = .ok (.if_icmp .ge 9, 3) := by decide +kernel
theorem ref_d20 : decode method_2_code 20 = .ok (.lload_n 2, 1) := by decide +kernel
theorem ref_d21 : decode method_2_code 21 = .ok (.lstore 9, 2) := by decide +kernel
theorem ref_d23 : decode method_2_code 23 = .ok (.goto 21, 3) := by decide +kernel
theorem ref_d26 : decode method_2_code 26 = .ok (.iload 8, 2) := by decide +kernel
theorem ref_d28 : decode method_2_code 28 = .ok (.bipush 24, 2) := by decide +kernel
theorem ref_d30 : decode method_2_code 30 = .ok (.if_icmp .ge 10, 3) := by decide +kernel
theorem ref_d33 : decode method_2_code 33 = .ok (.lload 4, 2) := by decide +kernel
theorem ref_d35 : decode method_2_code 35 = .ok (.lstore 9, 2) := by decide +kernel
theorem ref_d37 : decode method_2_code 37 = .ok (.goto 7, 3) := by decide +kernel
theorem ref_d40 : decode method_2_code 40 = .ok (.lload 6, 2) := by decide +kernel
theorem ref_d42 : decode method_2_code 42 = .ok (.lstore 9, 2) := by decide +kernel
theorem ref_d44 : decode method_2_code 44 = .ok (.lload 9, 2) := by decide +kernel
theorem ref_d46 : decode method_2_code 46 = .ok (.bipush 8, 2) := by decide +kernel
theorem ref_d48 : decode method_2_code 48 = .ok (.iload 8, 2) := by decide +kernel
theorem ref_d50 : decode method_2_code 50 = .ok (.bipush 7, 2) := by decide +kernel
theorem ref_d52 : decode method_2_code 52 = .ok (.iand, 1) := by decide +kernel
theorem ref_d53 : decode method_2_code 53 = .ok (.imul, 1) := by decide +kernel
theorem ref_d54 : decode method_2_code 54 = .ok (.lushr, 1) := by decide +kernel
theorem ref_d55 : decode method_2_code 55 = .ok (.l2i, 1) := by decide +kernel
theorem ref_d56 : decode method_2_code 56 = .ok (.i2b, 1) := by decide +kernel
theorem ref_d57 : decode method_2_code 57 = .ok (.ireturn, 1) := by decide +kernel
theorem ref_pn : plainName "com/example/trimhash/trimhash/HashPrefixOfPinLaw" = true := by first | (simp [plainName, overriddenIn]; done) | decide +kernel
theorem ref_ef (m : MethodId) (x0 : Int64) (x1 : Int64) (x2 : Int64) (x3 : Int64) (x4 : Int32) : entryFrame m #[(.long x0), (.long x1), (.long x2), (.long x3), (.int x4)] 11 = mkF m 0 #[.val (.long x0), .second, .val (.long x1), .second, .val (.long x2), .second, .val (.long x3), .second, .val (.int x4), .unset, .unset] [] := by first | (simp [entryFrame, mkF, argsToLocals, Value.category]; done) | rfl
def fRef (q0 : Int64) (q1 : Int64) (q2 : Int64) (q3 : Int64) (p4 : Int32) : Int32 :=
  let j44_9_2 : Int64 := (if p4 < (8 : Int32) then q0 else (if p4 < (16 : Int32) then q1 else (if p4 < (24 : Int32) then q2 else q3)))
  (nar .byte ((((j44_9_2.toUInt64 >>> (((8 : Int32) * (p4 &&& (7 : Int32))) &&& 0x3f).toInt64.toUInt64).toInt64).toInt32).toInt8.toInt32))
set_option maxRecDepth 65536 in
set_option maxHeartbeats 40000000 in
theorem rm_ref (l : Launch) (Z : State) (a0 : Array Value) (hw : ∀ d ∈ tables_1, d.before a0 Z = true) (ws : List Jvm.Cond) (q0 : Int64) (q1 : Int64) (q2 : Int64) (q3 : Int64) (p4 : Int32) (h0 : Heap) (n0 : Nat) (Z0 : n0 ≤ h0.size) :
    MetFree l (⟨"com/example/trimhash/trimhash/HashPrefixOfPinLaw", "ref", "(JJJJI)B"⟩ : MethodName) (head1 (Jvm.Cond.code (⟨"com/example/trimhash/trimhash/HashPrefixOfPinLaw", "ref", "(JJJJI)B"⟩ : MethodName) method_2_code 11 (some .byte) :: ws) ({ frames := 0, cells := 0, slots := 0, locals := 0 } : Room)) (fun a U => a = #[(.long q0), (.long q1), (.long q2), (.long q3), (.int p4)] ∧ Z.Warmed39 U.vm ∧ U.heap = h0) (fun _ _ _ _ _ => True) (fun _ U o U' => ∃ v L, o = .returned v ∧ QP (.int (fRef q0 q1 q2 q3 p4)) h0 n0 v U'.heap L ∧ FrameEnd U o U' L ({ frames := 0, cells := 0, slots := 0, locals := 0 } : Room).cells ({ frames := 0, cells := 0, slots := 0, locals := 0 } : Room).slots) := by
  refine MetFree.of_bodySF (plainFor_of_name ref_pn) hisR ?_
  intro p e s m args below meth c s₁ Bd hml0 hP hK
  obtain ⟨rfl, hZ, hh⟩ := hP
  have hx := Bd.exec
  have hby := Bd.bytes
  have hml : c.maxLocals = 11 := hml0
  have hown : s.vm.findClass "com/example/trimhash/trimhash/HashPrefixOfPinLaw" = some m.cls := findClass_of_methodNamed Bd.named
  have hnm := (name_of_methodNamed Bd.named Bd.method).1
  have X0 : Stand p l e ({ frames := 0, cells := 0, slots := 0, locals := 0 } : Room) s m #[(.long q0), (.long q1), (.long q2), (.long q3), (.int p4)] below meth c s₁ [] 0 0 := Stand.of_body Bd
  have e0 : s₁.heap = h0 := by rw [← hh, Bd.state]; rfl
  have N0 := Fr.nil n0
  obtain ⟨P0, hP0⟩ : ∃ P0 : State → Prop, P0 = fun t => Steps p.tables e below (s₁.setTop (entryFrame m #[(.long q0), (.long q1), (.long q2), (.long q3), (.int p4)] 11)) t := ⟨_, rfl⟩
  have K0 : ∀ t, Steps p.tables e below (s₁.setTop (mkF m 0 #[.val (.long q0), .second, .val (.long q1), .second, .val (.long q2), .second, .val (.long q3), .second, .val (.int p4), .unset, .unset] [])) t → P0 t := by
    intro t k; rw [hP0]; exact castTop (ref_ef m q0 q1 q2 q3 p4) k
  have K1 : ∀ t, Steps p.tables e below (s₁.setTop (mkF m 4 #[.val (.long q0), .second, .val (.long q1), .second, .val (.long q2), .second, .val (.long q3), .second, .val (.int p4), .unset, .unset] [(.int (8 : Int32)), (.int p4)])) t → P0 t := by
    intro t kt
    refine K0 t ?_
    show Steps p.tables e below (s₁.setTop (mkF m 0 #[.val (.long q0), .second, .val (.long q1), .second, .val (.long q2), .second, .val (.long q3), .second, .val (.int p4), .unset, .unset] [])) t
    refine XS.iload X0.here hx rfl (hb hby ref_d0) rfl ?_
    show Steps p.tables e below (s₁.setTop (mkF m 2 #[.val (.long q0), .second, .val (.long q1), .second, .val (.long q2), .second, .val (.long q3), .second, .val (.int p4), .unset, .unset] [(.int p4)])) t
    refine XS.bipush X0.here hx rfl (hb hby ref_d2) ?_
    exact kt
  obtain ⟨j44_9_2, hj44_9_2, K10⟩ : ∃ (j44_9_2 : Int64), j44_9_2 = (if p4 < (8 : Int32) then q0 else (if p4 < (16 : Int32) then q1 else (if p4 < (24 : Int32) then q2 else q3))) ∧ ∀ t, Steps p.tables e below (s₁.setTop (mkF m 44 #[.val (.long q0), .second, .val (.long q1), .second, .val (.long q2), .second, .val (.long q3), .second, .val (.int p4), .val (.long j44_9_2), .second] [])) t → P0 t := by
    by_cases hc4 : p4 < (8 : Int32)
    · have K2 : ∀ t, Steps p.tables e below (s₁.setTop (mkF m 44 #[.val (.long q0), .second, .val (.long q1), .second, .val (.long q2), .second, .val (.long q3), .second, .val (.int p4), .val (.long q0), .second] [])) t → P0 t := by
        intro t kt
        refine K1 t ?_
        show Steps p.tables e below (s₁.setTop (mkF m 4 #[.val (.long q0), .second, .val (.long q1), .second, .val (.long q2), .second, .val (.long q3), .second, .val (.int p4), .unset, .unset] [(.int (8 : Int32)), (.int p4)])) t
        refine XS.icmpNo X0.here hx rfl (hb hby ref_d4) rfl (tlt hc4).2.1 ?_
        show Steps p.tables e below (s₁.setTop (mkF m 7 #[.val (.long q0), .second, .val (.long q1), .second, .val (.long q2), .second, .val (.long q3), .second, .val (.int p4), .unset, .unset] [])) t
        refine XS.lloadN X0.here hx rfl (hb hby ref_d7) rfl ?_
        show Steps p.tables e below (s₁.setTop (mkF m 8 #[.val (.long q0), .second, .val (.long q1), .second, .val (.long q2), .second, .val (.long q3), .second, .val (.int p4), .unset, .unset] [(.long q0)])) t
        refine XS.lstore X0.here hx rfl (hb hby ref_d8) rfl (l' := #[.val (.long q0), .second, .val (.long q1), .second, .val (.long q2), .second, .val (.long q3), .second, .val (.int p4), .val (.long q0), .second]) rfl ?_
        show Steps p.tables e below (s₁.setTop (mkF m 10 #[.val (.long q0), .second, .val (.long q1), .second, .val (.long q2), .second, .val (.long q3), .second, .val (.int p4), .val (.long q0), .second] [])) t
        refine XS.goto X0.here hx rfl (pc0 := 10) (pc' := 44) rfl (hb hby ref_d10) (by decide) (by decide) ?_
        exact kt
      exact ⟨_, (if_pos hc4).symm, K2⟩
    · have K3 : ∀ t, Steps p.tables e below (s₁.setTop (mkF m 17 #[.val (.long q0), .second, .val (.long q1), .second, .val (.long q2), .second, .val (.long q3), .second, .val (.int p4), .unset, .unset] [(.int (16 : Int32)), (.int p4)])) t → P0 t := by
        intro t kt
        refine K1 t ?_
        show Steps p.tables e below (s₁.setTop (mkF m 4 #[.val (.long q0), .second, .val (.long q1), .second, .val (.long q2), .second, .val (.long q3), .second, .val (.int p4), .unset, .unset] [(.int (8 : Int32)), (.int p4)])) t
        refine XS.icmpYes X0.here hx rfl (pc0 := 4) (pc' := 13) rfl (hb hby ref_d4) rfl (flt hc4).2.1 (by decide) (by decide) ?_
        show Steps p.tables e below (s₁.setTop (mkF m 13 #[.val (.long q0), .second, .val (.long q1), .second, .val (.long q2), .second, .val (.long q3), .second, .val (.int p4), .unset, .unset] [])) t
        refine XS.iload X0.here hx rfl (hb hby ref_d13) rfl ?_
        show Steps p.tables e below (s₁.setTop (mkF m 15 #[.val (.long q0), .second, .val (.long q1), .second, .val (.long q2), .second, .val (.long q3), .second, .val (.int p4), .unset, .unset] [(.int p4)])) t
        refine XS.bipush X0.here hx rfl (hb hby ref_d15) ?_
        exact kt
      obtain ⟨j44_9_1, hj44_9_1, K9⟩ : ∃ (j44_9_1 : Int64), j44_9_1 = (if p4 < (16 : Int32) then q1 else (if p4 < (24 : Int32) then q2 else q3)) ∧ ∀ t, Steps p.tables e below (s₁.setTop (mkF m 44 #[.val (.long q0), .second, .val (.long q1), .second, .val (.long q2), .second, .val (.long q3), .second, .val (.int p4), .val (.long j44_9_1), .second] [])) t → P0 t := by
        by_cases hc17 : p4 < (16 : Int32)
        · have K4 : ∀ t, Steps p.tables e below (s₁.setTop (mkF m 44 #[.val (.long q0), .second, .val (.long q1), .second, .val (.long q2), .second, .val (.long q3), .second, .val (.int p4), .val (.long q1), .second] [])) t → P0 t := by
            intro t kt
            refine K3 t ?_
            show Steps p.tables e below (s₁.setTop (mkF m 17 #[.val (.long q0), .second, .val (.long q1), .second, .val (.long q2), .second, .val (.long q3), .second, .val (.int p4), .unset, .unset] [(.int (16 : Int32)), (.int p4)])) t
            refine XS.icmpNo X0.here hx rfl (hb hby ref_d17) rfl (tlt hc17).2.1 ?_
            show Steps p.tables e below (s₁.setTop (mkF m 20 #[.val (.long q0), .second, .val (.long q1), .second, .val (.long q2), .second, .val (.long q3), .second, .val (.int p4), .unset, .unset] [])) t
            refine XS.lloadN X0.here hx rfl (hb hby ref_d20) rfl ?_
            show Steps p.tables e below (s₁.setTop (mkF m 21 #[.val (.long q0), .second, .val (.long q1), .second, .val (.long q2), .second, .val (.long q3), .second, .val (.int p4), .unset, .unset] [(.long q1)])) t
            refine XS.lstore X0.here hx rfl (hb hby ref_d21) rfl (l' := #[.val (.long q0), .second, .val (.long q1), .second, .val (.long q2), .second, .val (.long q3), .second, .val (.int p4), .val (.long q1), .second]) rfl ?_
            show Steps p.tables e below (s₁.setTop (mkF m 23 #[.val (.long q0), .second, .val (.long q1), .second, .val (.long q2), .second, .val (.long q3), .second, .val (.int p4), .val (.long q1), .second] [])) t
            refine XS.goto X0.here hx rfl (pc0 := 23) (pc' := 44) rfl (hb hby ref_d23) (by decide) (by decide) ?_
            exact kt
          exact ⟨_, (if_pos hc17).symm, K4⟩
        · have K5 : ∀ t, Steps p.tables e below (s₁.setTop (mkF m 30 #[.val (.long q0), .second, .val (.long q1), .second, .val (.long q2), .second, .val (.long q3), .second, .val (.int p4), .unset, .unset] [(.int (24 : Int32)), (.int p4)])) t → P0 t := by
            intro t kt
            refine K3 t ?_
            show Steps p.tables e below (s₁.setTop (mkF m 17 #[.val (.long q0), .second, .val (.long q1), .second, .val (.long q2), .second, .val (.long q3), .second, .val (.int p4), .unset, .unset] [(.int (16 : Int32)), (.int p4)])) t
            refine XS.icmpYes X0.here hx rfl (pc0 := 17) (pc' := 26) rfl (hb hby ref_d17) rfl (flt hc17).2.1 (by decide) (by decide) ?_
            show Steps p.tables e below (s₁.setTop (mkF m 26 #[.val (.long q0), .second, .val (.long q1), .second, .val (.long q2), .second, .val (.long q3), .second, .val (.int p4), .unset, .unset] [])) t
            refine XS.iload X0.here hx rfl (hb hby ref_d26) rfl ?_
            show Steps p.tables e below (s₁.setTop (mkF m 28 #[.val (.long q0), .second, .val (.long q1), .second, .val (.long q2), .second, .val (.long q3), .second, .val (.int p4), .unset, .unset] [(.int p4)])) t
            refine XS.bipush X0.here hx rfl (hb hby ref_d28) ?_
            exact kt
          obtain ⟨j44_9, hj44_9, K8⟩ : ∃ (j44_9 : Int64), j44_9 = (if p4 < (24 : Int32) then q2 else q3) ∧ ∀ t, Steps p.tables e below (s₁.setTop (mkF m 44 #[.val (.long q0), .second, .val (.long q1), .second, .val (.long q2), .second, .val (.long q3), .second, .val (.int p4), .val (.long j44_9), .second] [])) t → P0 t := by
            by_cases hc30 : p4 < (24 : Int32)
            · have K6 : ∀ t, Steps p.tables e below (s₁.setTop (mkF m 44 #[.val (.long q0), .second, .val (.long q1), .second, .val (.long q2), .second, .val (.long q3), .second, .val (.int p4), .val (.long q2), .second] [])) t → P0 t := by
                intro t kt
                refine K5 t ?_
                show Steps p.tables e below (s₁.setTop (mkF m 30 #[.val (.long q0), .second, .val (.long q1), .second, .val (.long q2), .second, .val (.long q3), .second, .val (.int p4), .unset, .unset] [(.int (24 : Int32)), (.int p4)])) t
                refine XS.icmpNo X0.here hx rfl (hb hby ref_d30) rfl (tlt hc30).2.1 ?_
                show Steps p.tables e below (s₁.setTop (mkF m 33 #[.val (.long q0), .second, .val (.long q1), .second, .val (.long q2), .second, .val (.long q3), .second, .val (.int p4), .unset, .unset] [])) t
                refine XS.lload X0.here hx rfl (hb hby ref_d33) rfl ?_
                show Steps p.tables e below (s₁.setTop (mkF m 35 #[.val (.long q0), .second, .val (.long q1), .second, .val (.long q2), .second, .val (.long q3), .second, .val (.int p4), .unset, .unset] [(.long q2)])) t
                refine XS.lstore X0.here hx rfl (hb hby ref_d35) rfl (l' := #[.val (.long q0), .second, .val (.long q1), .second, .val (.long q2), .second, .val (.long q3), .second, .val (.int p4), .val (.long q2), .second]) rfl ?_
                show Steps p.tables e below (s₁.setTop (mkF m 37 #[.val (.long q0), .second, .val (.long q1), .second, .val (.long q2), .second, .val (.long q3), .second, .val (.int p4), .val (.long q2), .second] [])) t
                refine XS.goto X0.here hx rfl (pc0 := 37) (pc' := 44) rfl (hb hby ref_d37) (by decide) (by decide) ?_
                exact kt
              exact ⟨_, (if_pos hc30).symm, K6⟩
            · have K7 : ∀ t, Steps p.tables e below (s₁.setTop (mkF m 44 #[.val (.long q0), .second, .val (.long q1), .second, .val (.long q2), .second, .val (.long q3), .second, .val (.int p4), .val (.long q3), .second] [])) t → P0 t := by
                intro t kt
                refine K5 t ?_
                show Steps p.tables e below (s₁.setTop (mkF m 30 #[.val (.long q0), .second, .val (.long q1), .second, .val (.long q2), .second, .val (.long q3), .second, .val (.int p4), .unset, .unset] [(.int (24 : Int32)), (.int p4)])) t
                refine XS.icmpYes X0.here hx rfl (pc0 := 30) (pc' := 40) rfl (hb hby ref_d30) rfl (flt hc30).2.1 (by decide) (by decide) ?_
                show Steps p.tables e below (s₁.setTop (mkF m 40 #[.val (.long q0), .second, .val (.long q1), .second, .val (.long q2), .second, .val (.long q3), .second, .val (.int p4), .unset, .unset] [])) t
                refine XS.lload X0.here hx rfl (hb hby ref_d40) rfl ?_
                show Steps p.tables e below (s₁.setTop (mkF m 42 #[.val (.long q0), .second, .val (.long q1), .second, .val (.long q2), .second, .val (.long q3), .second, .val (.int p4), .unset, .unset] [(.long q3)])) t
                refine XS.lstore X0.here hx rfl (hb hby ref_d42) rfl (l' := #[.val (.long q0), .second, .val (.long q1), .second, .val (.long q2), .second, .val (.long q3), .second, .val (.int p4), .val (.long q3), .second]) rfl ?_
                exact kt
              exact ⟨_, (if_neg hc30).symm, K7⟩
          subst hj44_9
          exact ⟨_, (if_neg hc17).symm, K8⟩
      subst hj44_9_1
      exact ⟨_, (if_neg hc4).symm, K9⟩
  have K11 : ∀ t, Steps p.tables e below (s₁.setTop (mkF m 57 #[.val (.long q0), .second, .val (.long q1), .second, .val (.long q2), .second, .val (.long q3), .second, .val (.int p4), .val (.long j44_9_2), .second] [(.int ((((j44_9_2.toUInt64 >>> (((8 : Int32) * (p4 &&& (7 : Int32))) &&& 0x3f).toInt64.toUInt64).toInt64).toInt32).toInt8.toInt32))])) t → P0 t := by
    intro t kt
    refine K10 t ?_
    show Steps p.tables e below (s₁.setTop (mkF m 44 #[.val (.long q0), .second, .val (.long q1), .second, .val (.long q2), .second, .val (.long q3), .second, .val (.int p4), .val (.long j44_9_2), .second] [])) t
    refine XS.lload X0.here hx rfl (hb hby ref_d44) rfl ?_
    show Steps p.tables e below (s₁.setTop (mkF m 46 #[.val (.long q0), .second, .val (.long q1), .second, .val (.long q2), .second, .val (.long q3), .second, .val (.int p4), .val (.long j44_9_2), .second] [(.long j44_9_2)])) t
    refine XS.bipush X0.here hx rfl (hb hby ref_d46) ?_
    show Steps p.tables e below (s₁.setTop (mkF m 48 #[.val (.long q0), .second, .val (.long q1), .second, .val (.long q2), .second, .val (.long q3), .second, .val (.int p4), .val (.long j44_9_2), .second] [(.int (8 : Int32)), (.long j44_9_2)])) t
    refine XS.iload X0.here hx rfl (hb hby ref_d48) rfl ?_
    show Steps p.tables e below (s₁.setTop (mkF m 50 #[.val (.long q0), .second, .val (.long q1), .second, .val (.long q2), .second, .val (.long q3), .second, .val (.int p4), .val (.long j44_9_2), .second] [(.int p4), (.int (8 : Int32)), (.long j44_9_2)])) t
    refine XS.bipush X0.here hx rfl (hb hby ref_d50) ?_
    show Steps p.tables e below (s₁.setTop (mkF m 52 #[.val (.long q0), .second, .val (.long q1), .second, .val (.long q2), .second, .val (.long q3), .second, .val (.int p4), .val (.long j44_9_2), .second] [(.int (7 : Int32)), (.int p4), (.int (8 : Int32)), (.long j44_9_2)])) t
    refine XS.iand X0.here hx rfl (hb hby ref_d52) rfl ?_
    show Steps p.tables e below (s₁.setTop (mkF m 53 #[.val (.long q0), .second, .val (.long q1), .second, .val (.long q2), .second, .val (.long q3), .second, .val (.int p4), .val (.long j44_9_2), .second] [(.int (p4 &&& (7 : Int32))), (.int (8 : Int32)), (.long j44_9_2)])) t
    refine XS.imul X0.here hx rfl (hb hby ref_d53) rfl ?_
    show Steps p.tables e below (s₁.setTop (mkF m 54 #[.val (.long q0), .second, .val (.long q1), .second, .val (.long q2), .second, .val (.long q3), .second, .val (.int p4), .val (.long j44_9_2), .second] [(.int ((8 : Int32) * (p4 &&& (7 : Int32)))), (.long j44_9_2)])) t
    refine XS.lushr X0.here hx rfl (hb hby ref_d54) rfl ?_
    show Steps p.tables e below (s₁.setTop (mkF m 55 #[.val (.long q0), .second, .val (.long q1), .second, .val (.long q2), .second, .val (.long q3), .second, .val (.int p4), .val (.long j44_9_2), .second] [(.long ((j44_9_2.toUInt64 >>> (((8 : Int32) * (p4 &&& (7 : Int32))) &&& 0x3f).toInt64.toUInt64).toInt64))])) t
    refine XS.l2i X0.here hx rfl (hb hby ref_d55) rfl ?_
    show Steps p.tables e below (s₁.setTop (mkF m 56 #[.val (.long q0), .second, .val (.long q1), .second, .val (.long q2), .second, .val (.long q3), .second, .val (.int p4), .val (.long j44_9_2), .second] [(.int (((j44_9_2.toUInt64 >>> (((8 : Int32) * (p4 &&& (7 : Int32))) &&& 0x3f).toInt64.toUInt64).toInt64).toInt32))])) t
    refine XS.i2b X0.here hx rfl (hb hby ref_d56) rfl ?_
    exact kt
  obtain ⟨fs, hr, hrun, hended, hW, hsame⟩ := X0.leave (v := some (.int (nar .byte ((((j44_9_2.toUInt64 >>> (((8 : Int32) * (p4 &&& (7 : Int32))) &&& 0x3f).toInt64.toUInt64).toInt64).toInt32).toInt8.toInt32)))) (fun h => by rw [Bd.returns] at h; cases h)
  refine ⟨_, _, ?_, hrun, hended, _, _, rfl, ?_, ⟨_, rfl⟩, hW, hsame.mono (by decide) (by decide)⟩
  · skip
    have q := K11 _ (retN X0 hx (t := .byte) Bd.returns (by simp) (hb hby ref_d57) hr)
    rw [hP0] at q; exact q
  · show QP (.int (fRef q0 q1 q2 q3 p4)) h0 n0 _ s₁.heap _
    rw [e0]
    subst hj44_9_2
    exact ⟨rfl, N0, rfl⟩
theorem cpy_d0 : decode jdk_65_method_121_code 0 = .ok (.iload_n 1, 1) := by decide +kernel
theorem cpy_d1 : decode jdk_65_method_121_code 1 = .ok (.aload_n 0, 1) := by decide +kernel
theorem cpy_d2 : decode jdk_65_method_121_code 2 = .ok (.arraylength, 1) := by decide +kernel
theorem cpy_d3 : decode jdk_65_method_121_code 3 = .ok (.if_icmp .ne 11, 3) := by decide +kernel
theorem cpy_d14 : decode jdk_65_method_121_code 14 = .ok (.iload_n 1, 1) := by decide +kernel
theorem cpy_d15 : decode jdk_65_method_121_code 15 = .ok (.newarray .byte, 2) := by decide +kernel
theorem cpy_d17 : decode jdk_65_method_121_code 17 = .ok (.astore_n 2, 1) := by decide +kernel
theorem cpy_d18 : decode jdk_65_method_121_code 18 = .ok (.aload_n 0, 1) := by decide +kernel
theorem cpy_d19 : decode jdk_65_method_121_code 19 = .ok (.iconst 0, 1) := by decide +kernel
theorem cpy_d20 : decode jdk_65_method_121_code 20 = .ok (.aload_n 2, 1) := by decide +kernel
theorem cpy_d21 : decode jdk_65_method_121_code 21 = .ok (.iconst 0, 1) := by decide +kernel
theorem cpy_d22 : decode jdk_65_method_121_code 22 = .ok (.aload_n 0, 1) := by decide +kernel
theorem cpy_d23 : decode jdk_65_method_121_code 23 = .ok (.arraylength, 1) := by decide +kernel
theorem cpy_d24 : decode jdk_65_method_121_code 24 = .ok (.iload_n 1, 1) := by decide +kernel
theorem cpy_d25 : decode jdk_65_method_121_code 25 = .ok (.invokestatic 304, 3) := by decide +kernel
theorem cpy_d28 : decode jdk_65_method_121_code 28 = .ok (.invokestatic 150, 3) := by decide +kernel
theorem cpy_d31 : decode jdk_65_method_121_code 31 = .ok (.aload_n 2, 1) := by decide +kernel
theorem cpy_d32 : decode jdk_65_method_121_code 32 = .ok (.areturn, 1) := by decide +kernel
theorem cpy_pn : plainName "java/util/Arrays" = true := by first | (simp [plainName, overriddenIn]; done) | decide +kernel
theorem cpy_pd0 : parseMethodDescriptor "(II)I" = some ⟨[.int, .int], some .int⟩ := by decide +kernel
theorem cpy_ef (m : MethodId) (x0 : Addr) (x1 : Int32) : entryFrame m #[(.ref x0), (.int x1)] 3 = mkF m 0 #[.val (.ref x0), .val (.int x1), .unset] [] := by first | (simp [entryFrame, mkF, argsToLocals, Value.category]; done) | rfl
set_option maxRecDepth 65536 in
set_option maxHeartbeats 40000000 in
theorem rm_cpy (l : Launch) (Z : State) (a0 : Array Value) (hw : ∀ d ∈ tables_1, d.before a0 Z = true) (ws : List Jvm.Cond) (r0 : Addr) (p1 : Int32) (fa : Nat → Int32) (n : Nat) (h0 : Heap) (n0 : Nat) (Z0 : n0 ≤ h0.size) (Va : IA Z h0 r0 .byte 32 fa) (Ea : Exa Z h0 r0 "[B") (hp1 : p1 = Int32.ofNat n) (hn : n < 32) :
    MetFree l (⟨"java/util/Arrays", "copyOf", "([BI)[B"⟩ : MethodName) (head1 (Jvm.Cond.code (⟨"java/util/Arrays", "copyOf", "([BI)[B"⟩ : MethodName) jdk_65_method_121_code 3 (some (.array .byte)) :: ws) ({ frames := 1, cells := 1, slots := 32, locals := 38 } : Room)) (fun a U => a = #[(.ref r0), (.int p1)] ∧ Z.Warmed39 U.vm ∧ U.heap = h0) (fun _ _ _ _ _ => True) (fun _ U o U' => ∃ v L, o = .returned v ∧ QC Z n fa h0 n0 v U'.heap L ∧ FrameEnd U o U' L ({ frames := 1, cells := 1, slots := 32, locals := 38 } : Room).cells ({ frames := 1, cells := 1, slots := 32, locals := 38 } : Room).slots) := by
  refine MetFree.of_bodySF (plainFor_of_name cpy_pn) hisR ?_
  intro p e s m args below meth c s₁ Bd hml0 hP hK
  obtain ⟨rfl, hZ, hh⟩ := hP
  have hx := Bd.exec
  have hby := Bd.bytes
  have hml : c.maxLocals = 3 := hml0
  have hown : s.vm.findClass "java/util/Arrays" = some m.cls := findClass_of_methodNamed Bd.named
  have hnm := (name_of_methodNamed Bd.named Bd.method).1
  have X0 : Stand p l e ({ frames := 1, cells := 1, slots := 32, locals := 38 } : Room) s m #[(.ref r0), (.int p1)] below meth c s₁ [] 0 0 := Stand.of_body Bd
  have e0 : s₁.heap = h0 := by rw [← hh, Bd.state]; rfl
  have N0 := Fr.nil n0
  obtain ⟨P0, hP0⟩ : ∃ P0 : State → Prop, P0 = fun t => Steps p.tables e below (s₁.setTop (entryFrame m #[(.ref r0), (.int p1)] 3)) t := ⟨_, rfl⟩
  have K0 : ∀ t, Steps p.tables e below (s₁.setTop (mkF m 0 #[.val (.ref r0), .val (.int p1), .unset] [])) t → P0 t := by
    intro t k; rw [hP0]; exact castTop (cpy_ef m r0 p1) k
  obtain ⟨T1, h1, k1, X1, e1, E1, A1, Ea1, st1⟩ := newPE X0 hx hZ (hw _ (List.mem_of_getElem? (i := 0) rfl)) e0 (g := (mkF m 15 #[.val (.ref r0), .val (.int p1), .unset] [(.int p1)])) rfl (hb hby cpy_d15) rfl (own_nn hp1 hn) (cap := 32) (by rw [own_len hp1 hn]; omega) (by decide) (by decide) (by decide) (ad := "[B") rfl
  obtain ⟨b15, g1⟩ : ∃ z, z = h0.size := ⟨_, rfl⟩
  have g_b15 : n0 ≤ b15 := Nat.le_trans Z0 (Nat.le_of_eq g1.symm)
  have ne_r0_b15 : r0 ≠ b15 := Nat.ne_of_lt (Nat.lt_of_lt_of_le Va.lt (Nat.le_of_eq g1.symm))
  rw [← g1] at A1 st1 Ea1
  have sz_b15 : h0.size ≤ b15 := Nat.le_trans (Keep.refl h0 []).1 (Nat.le_of_eq g1.symm)
  have Z1 : n0 ≤ h1.size := Nat.le_trans Z0 E1.1
  have F2 : IA Z h1 r0 .byte 32 fa := Va.ext E1
  have F3 : Exa Z h1 r0 "[B" := Exa.ext E1 Ea
  obtain ⟨f15, hf15, V1⟩ : ∃ f15 : Nat → Int32, f15 = (fun _ => 0) ∧ IA Z h1 b15 .byte n f15 := ⟨_, rfl, IA.new A1 rfl rfl (own_len hp1 hn)⟩
  have Kp1 : Keep h0 h1 [] := (Keep.refl h0 []).ext E1
  obtain ⟨_, _, ⟨T4, L4, k4, n4⟩, -, X4, ⟨Lc4, hQ4, l4, y4, z4⟩, st4⟩ := Jvm.LawKit.callS X1 hx (y := (⟨"java/lang/Math", "min", "(II)I"⟩ : MethodName)) hown (mvT hZ (hw _ (List.mem_of_getElem? (i := 12) rfl))) (mvT hZ (hw _ (List.mem_of_getElem? (i := 13) rfl))) (mvT hZ (hw _ (List.mem_of_getElem? (i := 14) rfl))) (mvT hZ (hw _ (List.mem_of_getElem? (i := 15) rfl))) (by decide) (backOf (W := 4) (rm_min l Z a0 hw [] (32 : Int32) p1 h1 n0 Z1 ) hZ (hw _ (List.mem_of_getElem? (i := 15) rfl)) (hw _ (List.mem_of_getElem? (i := 14) rfl)) (by decide) (by decide)) (g := (mkF m 25 #[.val (.ref r0), .val (.int p1), .val (.ref b15)] [(.int p1), (.int (32 : Int32)), (.int (0 : Int32)), (.ref b15), (.int (0 : Int32)), (.ref r0)])) rfl (by rw [hml]; rfl) (argsL := [(.int (32 : Int32)), (.int p1)]) (rest := [(.int (0 : Int32)), (.ref b15), (.int (0 : Int32)), (.ref r0)]) (lenOf cpy_pd0 rfl) rfl (by show 2 * 0 + _ ≤ _; exact Nat.le_of_eq rfl) (hb hby cpy_d25) (fun _ _ => ⟨rfl, e1, (by decide : 1 + 0 ≤ _), (by decide : 32 + 0 ≤ _)⟩)
  dsimp only [Pt.U, Pt.locs, Pt.cells, Pt.slots] at X4 l4 y4 z4 st4 hQ4
  rw [l4, y4, z4] at X4
  obtain ⟨rfl, N4q, e4⟩ := hQ4
  have N4 := Fr.app N0 N4q
  obtain ⟨T6, h6, L6, X6, e6, N6, Kq6, V6, st6⟩ := cpIA X4 hx hZ hown (hw _ (List.mem_of_getElem? (i := 16) rfl)) (hw _ (List.mem_of_getElem? (i := 19) rfl)) (hw _ (List.mem_of_getElem? (i := 17) rfl)) (hw _ (List.mem_of_getElem? (i := 18) rfl)) e4 F2 V1 rfl (by decide) (by omega) (k := n) (nn := (fMin (32 : Int32) p1)) (own_min hp1 hn) (by omega) (Nat.le_refl _) N4 g_b15 (g := (mkF m 28 #[.val (.ref r0), .val (.int p1), .val (.ref b15)] [(.int (fMin (32 : Int32) p1)), (.int (0 : Int32)), (.ref b15), (.int (0 : Int32)), (.ref r0)])) rfl (by rw [hml]; rfl) rfl (hb hby cpy_d28) (by decide) (W := 0) (by show 2 * 0 + _ ≤ _; exact Nat.le_of_eq rfl) (by decide)
  have Z6 : n0 ≤ h6.size := Nat.le_trans Z1 Kq6.1
  have F7 : IA Z h6 r0 .byte 32 fa := F2.keep Kq6 (ninS ne_r0_b15 nin0)
  have F8 : Exa Z h6 r0 "[B" := F3.keep Kq6
  have F9 : Exa Z h6 b15 "[B" := Ea1.keep Kq6
  have F10 : IA Z h6 b15 .byte n fa := (IA.mono V6 rfl fun j hj => (if_pos hj).symm)
  have Kp6 : Keep h0 h6 [] := Kp1.trans Kq6 (allS (Or.inr sz_b15) all0)
  have K11 : ∀ t, Steps p.tables e below (T6.setTop (mkF m 32 #[.val (.ref r0), .val (.int p1), .val (.ref b15)] [(.ref b15)])) t → P0 t := by
    intro t kt
    refine K0 t ?_
    show Steps p.tables e below (s₁.setTop (mkF m 0 #[.val (.ref r0), .val (.int p1), .unset] [])) t
    refine XS.iloadN X0.here hx rfl (hb hby cpy_d0) rfl ?_
    show Steps p.tables e below (s₁.setTop (mkF m 1 #[.val (.ref r0), .val (.int p1), .unset] [(.int p1)])) t
    refine XS.aloadN X0.here hx rfl (hb hby cpy_d1) rfl rfl ?_
    show Steps p.tables e below (s₁.setTop (mkF m 2 #[.val (.ref r0), .val (.int p1), .unset] [(.ref r0), (.int p1)])) t
    refine lnIA X0 hx hZ e0 Va (z := (32 : Int32)) (by decide) (g := (mkF m 2 #[.val (.ref r0), .val (.int p1), .unset] [(.ref r0), (.int p1)])) rfl rfl (hb hby cpy_d2) _ ?_
    show Steps p.tables e below (s₁.setTop (mkF m 3 #[.val (.ref r0), .val (.int p1), .unset] [(.int (32 : Int32)), (.int p1)])) t
    refine XS.icmpYes X0.here hx rfl (pc0 := 3) (pc' := 14) rfl (hb hby cpy_d3) rfl (feq (own_ne32 hp1 hn)).2 (by decide) (by decide) ?_
    show Steps p.tables e below (s₁.setTop (mkF m 14 #[.val (.ref r0), .val (.int p1), .unset] [])) t
    refine XS.iloadN X0.here hx rfl (hb hby cpy_d14) rfl ?_
    show Steps p.tables e below (s₁.setTop (mkF m 15 #[.val (.ref r0), .val (.int p1), .unset] [(.int p1)])) t
    refine st1 _ ?_
    show Steps p.tables e below (T1.setTop (mkF m 17 #[.val (.ref r0), .val (.int p1), .unset] [(.ref b15)])) t
    refine XS.astoreN X1.here hx rfl (hb hby cpy_d17) rfl rfl (l' := #[.val (.ref r0), .val (.int p1), .val (.ref b15)]) rfl ?_
    show Steps p.tables e below (T1.setTop (mkF m 18 #[.val (.ref r0), .val (.int p1), .val (.ref b15)] [])) t
    refine XS.aloadN X1.here hx rfl (hb hby cpy_d18) rfl rfl ?_
    show Steps p.tables e below (T1.setTop (mkF m 19 #[.val (.ref r0), .val (.int p1), .val (.ref b15)] [(.ref r0)])) t
    refine XS.iconst X1.here hx rfl (hb hby cpy_d19) ?_
    show Steps p.tables e below (T1.setTop (mkF m 20 #[.val (.ref r0), .val (.int p1), .val (.ref b15)] [(.int (0 : Int32)), (.ref r0)])) t
    refine XS.aloadN X1.here hx rfl (hb hby cpy_d20) rfl rfl ?_
    show Steps p.tables e below (T1.setTop (mkF m 21 #[.val (.ref r0), .val (.int p1), .val (.ref b15)] [(.ref b15), (.int (0 : Int32)), (.ref r0)])) t
    refine XS.iconst X1.here hx rfl (hb hby cpy_d21) ?_
    show Steps p.tables e below (T1.setTop (mkF m 22 #[.val (.ref r0), .val (.int p1), .val (.ref b15)] [(.int (0 : Int32)), (.ref b15), (.int (0 : Int32)), (.ref r0)])) t
    refine XS.aloadN X1.here hx rfl (hb hby cpy_d22) rfl rfl ?_
    show Steps p.tables e below (T1.setTop (mkF m 23 #[.val (.ref r0), .val (.int p1), .val (.ref b15)] [(.ref r0), (.int (0 : Int32)), (.ref b15), (.int (0 : Int32)), (.ref r0)])) t
    refine lnIA X1 hx hZ e1 F2 (z := (32 : Int32)) (by decide) (g := (mkF m 23 #[.val (.ref r0), .val (.int p1), .val (.ref b15)] [(.ref r0), (.int (0 : Int32)), (.ref b15), (.int (0 : Int32)), (.ref r0)])) rfl rfl (hb hby cpy_d23) _ ?_
    show Steps p.tables e below (T1.setTop (mkF m 24 #[.val (.ref r0), .val (.int p1), .val (.ref b15)] [(.int (32 : Int32)), (.int (0 : Int32)), (.ref b15), (.int (0 : Int32)), (.ref r0)])) t
    refine XS.iloadN X1.here hx rfl (hb hby cpy_d24) rfl ?_
    show Steps p.tables e below (T1.setTop (mkF m 25 #[.val (.ref r0), .val (.int p1), .val (.ref b15)] [(.int p1), (.int (32 : Int32)), (.int (0 : Int32)), (.ref b15), (.int (0 : Int32)), (.ref r0)])) t
    refine st4 _ ?_
    show Steps p.tables e below (T4.setTop (mkF m 28 #[.val (.ref r0), .val (.int p1), .val (.ref b15)] [(.int (fMin (32 : Int32) p1)), (.int (0 : Int32)), (.ref b15), (.int (0 : Int32)), (.ref r0)])) t
    refine st6 _ ?_
    show Steps p.tables e below (T6.setTop (mkF m 31 #[.val (.ref r0), .val (.int p1), .val (.ref b15)] [])) t
    refine XS.aloadN X6.here hx rfl (hb hby cpy_d31) rfl rfl ?_
    exact kt
  obtain ⟨fs, hr, hrun, hended, hW, hsame⟩ := X6.leave (v := some (.ref b15)) (fun h => by rw [Bd.returns] at h; cases h)
  refine ⟨_, _, ?_, hrun, hended, _, _, rfl, ?_, ⟨_, rfl⟩, hW, hsame.mono (by decide) (by decide)⟩
  · skip
    have q := K11 _ (retOut X6 hx Bd.returns rfl (Or.inr (Or.inr (Or.inr (Or.inr ⟨rfl, rfl, rfl⟩)))) (hb hby cpy_d32) hr)
    rw [hP0] at q; exact q
  · show QC Z n fa h0 n0 _ T6.heap _
    rw [e6]
    exact ⟨b15, rfl, N6, Kp6, sz_b15, F9, F10⟩
theorem ini_d0 : decode prog_1_method_1_code 0 = .ok (.aload_n 0, 1) := by decide +kernel
theorem ini_d1 : decode prog_1_method_1_code 1 = .ok (.invokespecial 1, 3) := by decide +kernel
theorem ini_d4 : decode prog_1_method_1_code 4 = .ok (.aload_n 0, 1) := by decide +kernel
theorem ini_d5 : decode prog_1_method_1_code 5 = .ok (.aload_n 1, 1) := by decide +kernel
theorem ini_d6 : decode prog_1_method_1_code 6 = .ok (.putfield 7, 3) := by decide +kernel
theorem ini_d9 : decode prog_1_method_1_code 9 = .ok (.return_, 1) := by decide +kernel
theorem ini_pn : plainName "com/example/trimhash/trimhash/HashPrefix" = true := by first | (simp [plainName, overriddenIn]; done) | decide +kernel
theorem ini_ef (m : MethodId) (x0 : Addr) (x1 : Addr) : entryFrame m #[(.ref x0), (.ref x1)] 2 = mkF m 0 #[.val (.ref x0), .val (.ref x1)] [] := by first | (simp [entryFrame, mkF, argsToLocals, Value.category]; done) | rfl
set_option maxRecDepth 65536 in
set_option maxHeartbeats 40000000 in
theorem rm_ini (l : Launch) (Z : State) (a0 : Array Value) (hw : ∀ d ∈ tables_1, d.before a0 Z = true) (ws : List Jvm.Cond) (r0 : Addr) (r1 : Addr) (u0 : Value) (h0 : Heap) (n0 : Nat) (Z0 : n0 ≤ h0.size) (E0 : Exa Z h0 r0 "com/example/trimhash/trimhash/HashPrefix") (F0 : Fld Z h0 r0 "com/example/trimhash/trimhash/HashPrefix" "bytes" "[B" u0) (g0 : n0 ≤ r0) :
    MetFree l (⟨"com/example/trimhash/trimhash/HashPrefix", "<init>", "([B)V"⟩ : MethodName) (head1 (Jvm.Cond.code (⟨"com/example/trimhash/trimhash/HashPrefix", "<init>", "([B)V"⟩ : MethodName) prog_1_method_1_code 2 none :: ws) ({ frames := 1, cells := 0, slots := 0, locals := 12 } : Room)) (fun a U => a = #[(.ref r0), (.ref r1)] ∧ Z.Warmed39 U.vm ∧ U.heap = h0) (fun _ _ _ _ _ => True) (fun _ U o U' => ∃ v L, o = .returned v ∧ QI Z r0 r1 h0 n0 v U'.heap L ∧ FrameEnd U o U' L ({ frames := 1, cells := 0, slots := 0, locals := 12 } : Room).cells ({ frames := 1, cells := 0, slots := 0, locals := 12 } : Room).slots) := by
  refine MetFree.of_bodySF (plainFor_of_name ini_pn) hisR ?_
  intro p e s m args below meth c s₁ Bd hml0 hP hK
  obtain ⟨rfl, hZ, hh⟩ := hP
  have hx := Bd.exec
  have hby := Bd.bytes
  have hml : c.maxLocals = 2 := hml0
  have hown : s.vm.findClass "com/example/trimhash/trimhash/HashPrefix" = some m.cls := findClass_of_methodNamed Bd.named
  have hnm := (name_of_methodNamed Bd.named Bd.method).1
  have X0 : Stand p l e ({ frames := 1, cells := 0, slots := 0, locals := 12 } : Room) s m #[(.ref r0), (.ref r1)] below meth c s₁ [] 0 0 := Stand.of_body Bd
  have e0 : s₁.heap = h0 := by rw [← hh, Bd.state]; rfl
  have N0 := Fr.nil n0
  obtain ⟨P0, hP0⟩ : ∃ P0 : State → Prop, P0 = fun t => Steps p.tables e below (s₁.setTop (entryFrame m #[(.ref r0), (.ref r1)] 2)) t := ⟨_, rfl⟩
  have K0 : ∀ t, Steps p.tables e below (s₁.setTop (mkF m 0 #[.val (.ref r0), .val (.ref r1)] [])) t → P0 t := by
    intro t k; rw [hP0]; exact castTop (ini_ef m r0 r1) k
  obtain ⟨T1, X1, e1, st1⟩ := initO X0 hx hZ hown (hw _ (List.mem_of_getElem? (i := 23) rfl)) (hw _ (List.mem_of_getElem? (i := 24) rfl)) (hw _ (List.mem_of_getElem? (i := 25) rfl)) e0 (g := (mkF m 1 #[.val (.ref r0), .val (.ref r1)] [(.ref r0)])) rfl (by rw [hml]; rfl) rfl (hb hby ini_d1) (by decide) (W := 0) (by show 2 * 0 + _ ≤ _; exact Nat.le_of_eq rfl) (by decide)
  obtain ⟨T2, h2, X2, e2, W2, st2⟩ := putF X1 hx hZ hown (host := "") (Or.inl (hw _ (List.mem_of_getElem? (i := 26) rfl))) Via.refl e1 F0 E0 (Or.inr ⟨(hw _ (List.mem_of_getElem? (i := 27) rfl)), rfl, hnm⟩) (hw _ (List.mem_of_getElem? (i := 7) rfl)) (ty := (.array .byte)) (by decide) rfl rfl (g := (mkF m 6 #[.val (.ref r0), .val (.ref r1)] [(.ref r1), (.ref r0)])) rfl rfl (hb hby ini_d6)
  have Z2 : n0 ≤ h2.size := Nat.le_trans Z0 (Keep.of_wr W2).1
  have N2 := Fr.snoc X2 N0 g0
  have F3 : Exa Z h2 r0 "com/example/trimhash/trimhash/HashPrefix" := Exa.wr W2 E0
  have Kp2 : Keep h0 h2 [r0] := (Keep.refl h0 [r0]).wr W2 (Or.inl (List.mem_of_getElem? (i := 0) rfl))
  have F4 : Fld Z h2 r0 "com/example/trimhash/trimhash/HashPrefix" "bytes" "[B" (.ref r1) := Fld.same W2 F0
  have K5 : ∀ t, Steps p.tables e below (T2.setTop (mkF m 9 #[.val (.ref r0), .val (.ref r1)] [])) t → P0 t := by
    intro t kt
    refine K0 t ?_
    show Steps p.tables e below (s₁.setTop (mkF m 0 #[.val (.ref r0), .val (.ref r1)] [])) t
    refine XS.aloadN X0.here hx rfl (hb hby ini_d0) rfl rfl ?_
    show Steps p.tables e below (s₁.setTop (mkF m 1 #[.val (.ref r0), .val (.ref r1)] [(.ref r0)])) t
    refine st1 _ ?_
    show Steps p.tables e below (T1.setTop (mkF m 4 #[.val (.ref r0), .val (.ref r1)] [])) t
    refine XS.aloadN X1.here hx rfl (hb hby ini_d4) rfl rfl ?_
    show Steps p.tables e below (T1.setTop (mkF m 5 #[.val (.ref r0), .val (.ref r1)] [(.ref r0)])) t
    refine XS.aloadN X1.here hx rfl (hb hby ini_d5) rfl rfl ?_
    show Steps p.tables e below (T1.setTop (mkF m 6 #[.val (.ref r0), .val (.ref r1)] [(.ref r1), (.ref r0)])) t
    refine st2 _ ?_
    exact kt
  obtain ⟨fs, hr, hrun, hended, hW, hsame⟩ := X2.leave (v := none) (fun _ => rfl)
  refine ⟨_, _, ?_, hrun, hended, _, _, rfl, ?_, ⟨_, rfl⟩, hW, hsame.mono (by decide) (by decide)⟩
  · skip
    have q := K5 _ (X2.returnOut hx Bd.returns (hb hby ini_d9) hr)
    rw [hP0] at q; exact q
  · show QI Z r0 r1 h0 n0 _ T2.heap _
    rw [e2]
    exact ⟨rfl, N2, Kp2, F3, F4⟩
theorem ofa_d0 : decode prog_1_method_6_code 0 = .ok (.new 8, 3) := by decide +kernel
theorem ofa_d3 : decode prog_1_method_6_code 3 = .ok (.dup, 1) := by decide +kernel
theorem ofa_d4 : decode prog_1_method_6_code 4 = .ok (.iload_n 1, 1) := by decide +kernel
theorem ofa_d5 : decode prog_1_method_6_code 5 = .ok (.bipush 32, 2) := by decide +kernel
theorem ofa_d7 : decode prog_1_method_6_code 7 = .ok (.if_icmp .ne 7, 3) := by decide +kernel
theorem ofa_d10 : decode prog_1_method_6_code 10 = .ok (.aload_n 0, 1) := by decide +kernel
theorem ofa_d11 : decode prog_1_method_6_code 11 = .ok (.goto 8, 3) := by decide +kernel
theorem ofa_d19 : decode prog_1_method_6_code 19 = .ok (.invokespecial 81, 3) := by decide +kernel
theorem ofa_d22 : decode prog_1_method_6_code 22 = .ok (.areturn, 1) := by decide +kernel
theorem ofa_pn : plainName "com/example/trimhash/trimhash/HashPrefix" = true := by first | (simp [plainName, overriddenIn]; done) | decide +kernel
theorem ofa_pd0 : parseMethodDescriptor "([B)V" = some ⟨[(.array .byte)], none⟩ := by decide +kernel
theorem ofa_ef (m : MethodId) (x0 : Addr) (x1 : Int32) : entryFrame m #[(.ref x0), (.int x1)] 2 = mkF m 0 #[.val (.ref x0), .val (.int x1)] [] := by first | (simp [entryFrame, mkF, argsToLocals, Value.category]; done) | rfl
set_option maxRecDepth 65536 in
set_option maxHeartbeats 40000000 in
theorem rm_ofa (l : Launch) (Z : State) (a0 : Array Value) (hw : ∀ d ∈ tables_1, d.before a0 Z = true) (ws : List Jvm.Cond) (r0 : Addr) (p1 : Int32) (fa : Nat → Int32) (n : Nat) (h0 : Heap) (n0 : Nat) (Z0 : n0 ≤ h0.size) (Va : IA Z h0 r0 .byte 32 fa) (Ea : Exa Z h0 r0 "[B") (hp1 : p1 = Int32.ofNat n) (hn : n = 32) :
    MetFree l (⟨"com/example/trimhash/trimhash/HashPrefix", "of", "([BI)Lcom/example/trimhash/trimhash/HashPrefix;"⟩ : MethodName) (head1 (Jvm.Cond.code (⟨"com/example/trimhash/trimhash/HashPrefix", "of", "([BI)Lcom/example/trimhash/trimhash/HashPrefix;"⟩ : MethodName) prog_1_method_6_code 2 (some (.object "com/example/trimhash/trimhash/HashPrefix")) :: ws) ({ frames := 3, cells := 2, slots := 33, locals := 100 } : Room)) (fun a U => a = #[(.ref r0), (.int p1)] ∧ Z.Warmed39 U.vm ∧ U.heap = h0) (fun _ _ _ _ _ => True) (fun _ U o U' => ∃ v L, o = .returned v ∧ QO Z n fa h0 n0 v U'.heap L ∧ FrameEnd U o U' L ({ frames := 3, cells := 2, slots := 33, locals := 100 } : Room).cells ({ frames := 3, cells := 2, slots := 33, locals := 100 } : Room).slots) := by
  refine MetFree.of_bodySF (plainFor_of_name ofa_pn) hisR ?_
  intro p e s m args below meth c s₁ Bd hml0 hP hK
  obtain ⟨rfl, hZ, hh⟩ := hP
  have hx := Bd.exec
  have hby := Bd.bytes
  have hml : c.maxLocals = 2 := hml0
  have hown : s.vm.findClass "com/example/trimhash/trimhash/HashPrefix" = some m.cls := findClass_of_methodNamed Bd.named
  have hnm := (name_of_methodNamed Bd.named Bd.method).1
  have X0 : Stand p l e ({ frames := 3, cells := 2, slots := 33, locals := 100 } : Room) s m #[(.ref r0), (.int p1)] below meth c s₁ [] 0 0 := Stand.of_body Bd
  have e0 : s₁.heap = h0 := by rw [← hh, Bd.state]; rfl
  have N0 := Fr.nil n0
  obtain ⟨P0, hP0⟩ : ∃ P0 : State → Prop, P0 = fun t => Steps p.tables e below (s₁.setTop (entryFrame m #[(.ref r0), (.int p1)] 2)) t := ⟨_, rfl⟩
  have K0 : ∀ t, Steps p.tables e below (s₁.setTop (mkF m 0 #[.val (.ref r0), .val (.int p1)] [])) t → P0 t := by
    intro t k; rw [hP0]; exact castTop (ofa_ef m r0 p1) k
  obtain ⟨T1, h1, X1, e1, E1, A1, D1, -, st1⟩ := newO X0 hx hZ hown (hw _ (List.mem_of_getElem? (i := 6) rfl)) (hw _ (List.mem_of_getElem? (i := 7) rfl)) (hw _ (List.mem_of_getElem? (i := 4) rfl)) e0 (g := (mkF m 0 #[.val (.ref r0), .val (.int p1)] [])) rfl (hb hby ofa_d0) (by decide) (by decide)
  obtain ⟨b0, g1⟩ : ∃ z, z = h0.size := ⟨_, rfl⟩
  have g_b0 : n0 ≤ b0 := Nat.le_trans Z0 (Nat.le_of_eq g1.symm)
  have ne_r0_b0 : r0 ≠ b0 := Nat.ne_of_lt (Nat.lt_of_lt_of_le Va.lt (Nat.le_of_eq g1.symm))
  rw [← g1] at A1 D1 st1
  have sz_b0 : h0.size ≤ b0 := Nat.le_trans (Keep.refl h0 []).1 (Nat.le_of_eq g1.symm)
  have Z1 : n0 ≤ h1.size := Nat.le_trans Z0 E1.1
  have F2 : IA Z h1 r0 .byte 32 fa := Va.ext E1
  have F3 : Exa Z h1 r0 "[B" := Exa.ext E1 Ea
  have F4 : Fld Z h1 b0 "com/example/trimhash/trimhash/HashPrefix" "bytes" "[B" .null := D1 (Or.inr (hw _ (List.mem_of_getElem? (i := 27) rfl))) (ty := (.array .byte)) (by decide)
  have Kp1 : Keep h0 h1 [] := (Keep.refl h0 []).ext E1
  obtain ⟨_, _, ⟨T5, L5, k5, n5⟩, -, X5, ⟨Lc5, hQ5, l5, y5, z5⟩, st5⟩ := X1.specialBack hx (y := (⟨"com/example/trimhash/trimhash/HashPrefix", "<init>", "([B)V"⟩ : MethodName)) rfl hown (mvT hZ (hw _ (List.mem_of_getElem? (i := 20) rfl))) (mvT hZ (hw _ (List.mem_of_getElem? (i := 21) rfl))) (mvT hZ (hw _ (List.mem_of_getElem? (i := 22) rfl))) (by decide) (backOf (W := 1) (rm_ini l Z a0 hw [] b0 r0 _ h1 n0 Z1 A1 F4 g_b0) hZ (hw _ (List.mem_of_getElem? (i := 22) rfl)) (hw _ (List.mem_of_getElem? (i := 4) rfl)) (by decide) (by decide)) (g := (mkF m 19 #[.val (.ref r0), .val (.int p1)] [(.ref r0), (.ref b0), (.ref b0)])) rfl (by rw [hml]; rfl) (Steps.refl _) (a := b0) (argsL := [(.ref r0)]) (rest := [(.ref b0)]) (lenOf ofa_pd0 rfl) rfl (by show 2 * 0 + _ ≤ _; exact Nat.le_of_eq rfl) (hb hby ofa_d19) (fun _ _ => ⟨rfl, e1, (by decide : 1 + 0 ≤ _), (by decide : 1 + 0 ≤ _)⟩)
  dsimp only [Pt.U, Pt.locs, Pt.cells, Pt.slots] at X5 l5 y5 z5 st5 hQ5
  rw [l5, y5, z5] at X5
  obtain ⟨h5, e5⟩ : ∃ z, T5.heap = z := ⟨_, rfl⟩
  rw [e5] at hQ5
  obtain ⟨rfl, N5q, Kq5, F6, F7⟩ := hQ5
  have N5 := Fr.app N0 N5q
  have Z5 : n0 ≤ h5.size := Nat.le_trans Z1 Kq5.1
  have F8 : IA Z h5 r0 .byte 32 fa := F2.keep Kq5 (ninS ne_r0_b0 nin0)
  have F9 : Exa Z h5 r0 "[B" := F3.keep Kq5
  have Kp5 : Keep h0 h5 [] := Kp1.trans Kq5 (allS (Or.inr sz_b0) all0)
  have K10 : ∀ t, Steps p.tables e below (T5.setTop (mkF m 22 #[.val (.ref r0), .val (.int p1)] [(.ref b0)])) t → P0 t := by
    intro t kt
    refine K0 t ?_
    show Steps p.tables e below (s₁.setTop (mkF m 0 #[.val (.ref r0), .val (.int p1)] [])) t
    refine st1 _ ?_
    show Steps p.tables e below (T1.setTop (mkF m 3 #[.val (.ref r0), .val (.int p1)] [(.ref b0)])) t
    refine XS.dup X1.here hx rfl (hb hby ofa_d3) rfl rfl ?_
    show Steps p.tables e below (T1.setTop (mkF m 4 #[.val (.ref r0), .val (.int p1)] [(.ref b0), (.ref b0)])) t
    refine XS.iloadN X1.here hx rfl (hb hby ofa_d4) rfl ?_
    show Steps p.tables e below (T1.setTop (mkF m 5 #[.val (.ref r0), .val (.int p1)] [(.int p1), (.ref b0), (.ref b0)])) t
    refine XS.bipush X1.here hx rfl (hb hby ofa_d5) ?_
    show Steps p.tables e below (T1.setTop (mkF m 7 #[.val (.ref r0), .val (.int p1)] [(.int (32 : Int32)), (.int p1), (.ref b0), (.ref b0)])) t
    refine XS.icmpNo X1.here hx rfl (hb hby ofa_d7) rfl (teq (by rw [hp1, hn]; rfl)).2 ?_
    show Steps p.tables e below (T1.setTop (mkF m 10 #[.val (.ref r0), .val (.int p1)] [(.ref b0), (.ref b0)])) t
    refine XS.aloadN X1.here hx rfl (hb hby ofa_d10) rfl rfl ?_
    show Steps p.tables e below (T1.setTop (mkF m 11 #[.val (.ref r0), .val (.int p1)] [(.ref r0), (.ref b0), (.ref b0)])) t
    refine XS.goto X1.here hx rfl (pc0 := 11) (pc' := 19) rfl (hb hby ofa_d11) (by decide) (by decide) ?_
    show Steps p.tables e below (T1.setTop (mkF m 19 #[.val (.ref r0), .val (.int p1)] [(.ref r0), (.ref b0), (.ref b0)])) t
    refine st5.trans ?_
    exact kt
  obtain ⟨fs, hr, hrun, hended, hW, hsame⟩ := X5.leave (v := some (.ref b0)) (fun h => by rw [Bd.returns] at h; cases h)
  refine ⟨_, _, ?_, hrun, hended, _, _, rfl, ?_, ⟨_, rfl⟩, hW, hsame.mono (by decide) (by decide)⟩
  · skip
    have q := K10 _ (retOut X5 hx Bd.returns rfl (Or.inr (Or.inr (Or.inr (Or.inr ⟨rfl, rfl, rfl⟩)))) (hb hby ofa_d22) hr)
    rw [hP0] at q; exact q
  · show QO Z n fa h0 n0 _ T5.heap _
    rw [e5]
    exact ⟨b0, r0, rfl, N5, Kp5, sz_b0, F6, F7, F9, (IA.mono F8 hn fun j _ => rfl)⟩
theorem ofb_d0 : decode prog_1_method_6_code 0 = .ok (.new 8, 3) := by decide +kernel
theorem ofb_d3 : decode prog_1_method_6_code 3 = .ok (.dup, 1) := by decide +kernel
theorem ofb_d4 : decode prog_1_method_6_code 4 = .ok (.iload_n 1, 1) := by decide +kernel
theorem ofb_d5 : decode prog_1_method_6_code 5 = .ok (.bipush 32, 2) := by decide +kernel
theorem ofb_d7 : decode prog_1_method_6_code 7 = .ok (.if_icmp .ne 7, 3) := by decide +kernel
theorem ofb_d14 : decode prog_1_method_6_code 14 = .ok (.aload_n 0, 1) := by decide +kernel
theorem ofb_d15 : decode prog_1_method_6_code 15 = .ok (.iload_n 1, 1) := by decide +kernel
theorem ofb_d16 : decode prog_1_method_6_code 16 = .ok (.invokestatic 75, 3) := by decide +kernel
theorem ofb_d19 : decode prog_1_method_6_code 19 = .ok (.invokespecial 81, 3) := by decide +kernel
theorem ofb_d22 : decode prog_1_method_6_code 22 = .ok (.areturn, 1) := by decide +kernel
theorem ofb_pn : plainName "com/example/trimhash/trimhash/HashPrefix" = true := by first | (simp [plainName, overriddenIn]; done) | decide +kernel
theorem ofb_pd0 : parseMethodDescriptor "([BI)[B" = some ⟨[(.array .byte), .int], some (.array .byte)⟩ := by decide +kernel
theorem ofb_pd1 : parseMethodDescriptor "([B)V" = some ⟨[(.array .byte)], none⟩ := by decide +kernel
theorem ofb_ef (m : MethodId) (x0 : Addr) (x1 : Int32) : entryFrame m #[(.ref x0), (.int x1)] 2 = mkF m 0 #[.val (.ref x0), .val (.int x1)] [] := by first | (simp [entryFrame, mkF, argsToLocals, Value.category]; done) | rfl
set_option maxRecDepth 65536 in
set_option maxHeartbeats 40000000 in
theorem rm_ofb (l : Launch) (Z : State) (a0 : Array Value) (hw : ∀ d ∈ tables_1, d.before a0 Z = true) (ws : List Jvm.Cond) (r0 : Addr) (p1 : Int32) (fa : Nat → Int32) (n : Nat) (h0 : Heap) (n0 : Nat) (Z0 : n0 ≤ h0.size) (Va : IA Z h0 r0 .byte 32 fa) (Ea : Exa Z h0 r0 "[B") (hp1 : p1 = Int32.ofNat n) (hn : n < 32) :
    MetFree l (⟨"com/example/trimhash/trimhash/HashPrefix", "of", "([BI)Lcom/example/trimhash/trimhash/HashPrefix;"⟩ : MethodName) (head1 (Jvm.Cond.code (⟨"com/example/trimhash/trimhash/HashPrefix", "of", "([BI)Lcom/example/trimhash/trimhash/HashPrefix;"⟩ : MethodName) prog_1_method_6_code 2 (some (.object "com/example/trimhash/trimhash/HashPrefix")) :: ws) ({ frames := 3, cells := 2, slots := 33, locals := 100 } : Room)) (fun a U => a = #[(.ref r0), (.int p1)] ∧ Z.Warmed39 U.vm ∧ U.heap = h0) (fun _ _ _ _ _ => True) (fun _ U o U' => ∃ v L, o = .returned v ∧ QO Z n fa h0 n0 v U'.heap L ∧ FrameEnd U o U' L ({ frames := 3, cells := 2, slots := 33, locals := 100 } : Room).cells ({ frames := 3, cells := 2, slots := 33, locals := 100 } : Room).slots) := by
  refine MetFree.of_bodySF (plainFor_of_name ofb_pn) hisR ?_
  intro p e s m args below meth c s₁ Bd hml0 hP hK
  obtain ⟨rfl, hZ, hh⟩ := hP
  have hx := Bd.exec
  have hby := Bd.bytes
  have hml : c.maxLocals = 2 := hml0
  have hown : s.vm.findClass "com/example/trimhash/trimhash/HashPrefix" = some m.cls := findClass_of_methodNamed Bd.named
  have hnm := (name_of_methodNamed Bd.named Bd.method).1
  have X0 : Stand p l e ({ frames := 3, cells := 2, slots := 33, locals := 100 } : Room) s m #[(.ref r0), (.int p1)] below meth c s₁ [] 0 0 := Stand.of_body Bd
  have e0 : s₁.heap = h0 := by rw [← hh, Bd.state]; rfl
  have N0 := Fr.nil n0
  obtain ⟨P0, hP0⟩ : ∃ P0 : State → Prop, P0 = fun t => Steps p.tables e below (s₁.setTop (entryFrame m #[(.ref r0), (.int p1)] 2)) t := ⟨_, rfl⟩
  have K0 : ∀ t, Steps p.tables e below (s₁.setTop (mkF m 0 #[.val (.ref r0), .val (.int p1)] [])) t → P0 t := by
    intro t k; rw [hP0]; exact castTop (ofb_ef m r0 p1) k
  obtain ⟨T1, h1, X1, e1, E1, A1, D1, -, st1⟩ := newO X0 hx hZ hown (hw _ (List.mem_of_getElem? (i := 6) rfl)) (hw _ (List.mem_of_getElem? (i := 7) rfl)) (hw _ (List.mem_of_getElem? (i := 4) rfl)) e0 (g := (mkF m 0 #[.val (.ref r0), .val (.int p1)] [])) rfl (hb hby ofb_d0) (by decide) (by decide)
  obtain ⟨b0, g1⟩ : ∃ z, z = h0.size := ⟨_, rfl⟩
  have g_b0 : n0 ≤ b0 := Nat.le_trans Z0 (Nat.le_of_eq g1.symm)
  have ne_r0_b0 : r0 ≠ b0 := Nat.ne_of_lt (Nat.lt_of_lt_of_le Va.lt (Nat.le_of_eq g1.symm))
  rw [← g1] at A1 D1 st1
  have sz_b0 : h0.size ≤ b0 := Nat.le_trans (Keep.refl h0 []).1 (Nat.le_of_eq g1.symm)
  have Z1 : n0 ≤ h1.size := Nat.le_trans Z0 E1.1
  have F2 : IA Z h1 r0 .byte 32 fa := Va.ext E1
  have F3 : Exa Z h1 r0 "[B" := Exa.ext E1 Ea
  have F4 : Fld Z h1 b0 "com/example/trimhash/trimhash/HashPrefix" "bytes" "[B" .null := D1 (Or.inr (hw _ (List.mem_of_getElem? (i := 27) rfl))) (ty := (.array .byte)) (by decide)
  have Kp1 : Keep h0 h1 [] := (Keep.refl h0 []).ext E1
  obtain ⟨_, _, ⟨T5, L5, k5, n5⟩, -, X5, ⟨Lc5, hQ5, l5, y5, z5⟩, st5⟩ := Jvm.LawKit.callS X1 hx (y := (⟨"java/util/Arrays", "copyOf", "([BI)[B"⟩ : MethodName)) hown (mvT hZ (hw _ (List.mem_of_getElem? (i := 8) rfl))) (mvT hZ (hw _ (List.mem_of_getElem? (i := 9) rfl))) (mvT hZ (hw _ (List.mem_of_getElem? (i := 10) rfl))) (mvT hZ (hw _ (List.mem_of_getElem? (i := 11) rfl))) (by decide) (backOf (W := 2) (rm_cpy l Z a0 hw [] r0 p1 fa n h1 n0 Z1 F2 F3 hp1 hn) hZ (hw _ (List.mem_of_getElem? (i := 11) rfl)) (hw _ (List.mem_of_getElem? (i := 10) rfl)) (by decide) (by decide)) (g := (mkF m 16 #[.val (.ref r0), .val (.int p1)] [(.int p1), (.ref r0), (.ref b0), (.ref b0)])) rfl (by rw [hml]; rfl) (argsL := [(.ref r0), (.int p1)]) (rest := [(.ref b0), (.ref b0)]) (lenOf ofb_pd0 rfl) rfl (by show 2 * 0 + _ ≤ _; exact Nat.le_of_eq rfl) (hb hby ofb_d16) (fun _ _ => ⟨rfl, e1, (by decide : 1 + 1 ≤ _), (by decide : 1 + 32 ≤ _)⟩)
  dsimp only [Pt.U, Pt.locs, Pt.cells, Pt.slots] at X5 l5 y5 z5 st5 hQ5
  rw [l5, y5, z5] at X5
  obtain ⟨h5, e5⟩ : ∃ z, T5.heap = z := ⟨_, rfl⟩
  rw [e5] at hQ5
  obtain ⟨b16, rfl, N5q, Kq5, gs_b16, F6, F7⟩ := hQ5
  have N5 := Fr.app N0 N5q
  have g_b16 : n0 ≤ b16 := Nat.le_trans Z1 gs_b16
  have ne_r0_b16 : r0 ≠ b16 := Nat.ne_of_lt (Nat.lt_of_lt_of_le F2.lt gs_b16)
  have ne_b0_b16 : b0 ≠ b16 := Nat.ne_of_lt (Nat.lt_of_lt_of_le A1.lt gs_b16)
  have sz_b16 : h0.size ≤ b16 := Nat.le_trans Kp1.1 gs_b16
  have Z5 : n0 ≤ h5.size := Nat.le_trans Z1 Kq5.1
  have F8 : IA Z h5 r0 .byte 32 fa := F2.keep Kq5 nin0
  have F9 : Exa Z h5 r0 "[B" := F3.keep Kq5
  have F10 : Exa Z h5 b0 "com/example/trimhash/trimhash/HashPrefix" := A1.keep Kq5
  have F11 : Fld Z h5 b0 "com/example/trimhash/trimhash/HashPrefix" "bytes" "[B" .null := F4.keep Kq5 nin0
  have Kp5 : Keep h0 h5 [] := Kp1.trans Kq5 all0
  obtain ⟨_, _, ⟨T12, L12, k12, n12⟩, -, X12, ⟨Lc12, hQ12, l12, y12, z12⟩, st12⟩ := X5.specialBack hx (y := (⟨"com/example/trimhash/trimhash/HashPrefix", "<init>", "([B)V"⟩ : MethodName)) rfl hown (mvT hZ (hw _ (List.mem_of_getElem? (i := 20) rfl))) (mvT hZ (hw _ (List.mem_of_getElem? (i := 21) rfl))) (mvT hZ (hw _ (List.mem_of_getElem? (i := 22) rfl))) (by decide) (backOf (W := 1) (rm_ini l Z a0 hw [] b0 b16 _ h5 n0 Z5 F10 F11 g_b0) hZ (hw _ (List.mem_of_getElem? (i := 22) rfl)) (hw _ (List.mem_of_getElem? (i := 4) rfl)) (by decide) (by decide)) (g := (mkF m 19 #[.val (.ref r0), .val (.int p1)] [(.ref b16), (.ref b0), (.ref b0)])) rfl (by rw [hml]; rfl) (Steps.refl _) (a := b0) (argsL := [(.ref b16)]) (rest := [(.ref b0)]) (lenOf ofb_pd1 rfl) rfl (by show 2 * 0 + _ ≤ _; exact Nat.le_of_eq rfl) (hb hby ofb_d19) (fun _ _ => ⟨rfl, e5, (by decide : 2 + 0 ≤ _), (by decide : 33 + 0 ≤ _)⟩)
  dsimp only [Pt.U, Pt.locs, Pt.cells, Pt.slots] at X12 l12 y12 z12 st12 hQ12
  rw [l12, y12, z12] at X12
  obtain ⟨h12, e12⟩ : ∃ z, T12.heap = z := ⟨_, rfl⟩
  rw [e12] at hQ12
  obtain ⟨rfl, N12q, Kq12, F13, F14⟩ := hQ12
  have N12 := Fr.app N5 N12q
  have Z12 : n0 ≤ h12.size := Nat.le_trans Z5 Kq12.1
  have F15 : IA Z h12 r0 .byte 32 fa := F8.keep Kq12 (ninS ne_r0_b0 nin0)
  have F16 : Exa Z h12 r0 "[B" := F9.keep Kq12
  have F17 : Exa Z h12 b16 "[B" := F6.keep Kq12
  have F18 : IA Z h12 b16 .byte n fa := F7.keep Kq12 (ninS (Ne.symm ne_b0_b16) nin0)
  have Kp12 : Keep h0 h12 [] := Kp5.trans Kq12 (allS (Or.inr sz_b0) all0)
  have K19 : ∀ t, Steps p.tables e below (T12.setTop (mkF m 22 #[.val (.ref r0), .val (.int p1)] [(.ref b0)])) t → P0 t := by
    intro t kt
    refine K0 t ?_
    show Steps p.tables e below (s₁.setTop (mkF m 0 #[.val (.ref r0), .val (.int p1)] [])) t
    refine st1 _ ?_
    show Steps p.tables e below (T1.setTop (mkF m 3 #[.val (.ref r0), .val (.int p1)] [(.ref b0)])) t
    refine XS.dup X1.here hx rfl (hb hby ofb_d3) rfl rfl ?_
    show Steps p.tables e below (T1.setTop (mkF m 4 #[.val (.ref r0), .val (.int p1)] [(.ref b0), (.ref b0)])) t
    refine XS.iloadN X1.here hx rfl (hb hby ofb_d4) rfl ?_
    show Steps p.tables e below (T1.setTop (mkF m 5 #[.val (.ref r0), .val (.int p1)] [(.int p1), (.ref b0), (.ref b0)])) t
    refine XS.bipush X1.here hx rfl (hb hby ofb_d5) ?_
    show Steps p.tables e below (T1.setTop (mkF m 7 #[.val (.ref r0), .val (.int p1)] [(.int (32 : Int32)), (.int p1), (.ref b0), (.ref b0)])) t
    refine XS.icmpYes X1.here hx rfl (pc0 := 7) (pc' := 14) rfl (hb hby ofb_d7) rfl (feq (own_ne32 hp1 hn)).2 (by decide) (by decide) ?_
    show Steps p.tables e below (T1.setTop (mkF m 14 #[.val (.ref r0), .val (.int p1)] [(.ref b0), (.ref b0)])) t
    refine XS.aloadN X1.here hx rfl (hb hby ofb_d14) rfl rfl ?_
    show Steps p.tables e below (T1.setTop (mkF m 15 #[.val (.ref r0), .val (.int p1)] [(.ref r0), (.ref b0), (.ref b0)])) t
    refine XS.iloadN X1.here hx rfl (hb hby ofb_d15) rfl ?_
    show Steps p.tables e below (T1.setTop (mkF m 16 #[.val (.ref r0), .val (.int p1)] [(.int p1), (.ref r0), (.ref b0), (.ref b0)])) t
    refine st5 _ ?_
    show Steps p.tables e below (T5.setTop (mkF m 19 #[.val (.ref r0), .val (.int p1)] [(.ref b16), (.ref b0), (.ref b0)])) t
    refine st12.trans ?_
    exact kt
  obtain ⟨fs, hr, hrun, hended, hW, hsame⟩ := X12.leave (v := some (.ref b0)) (fun h => by rw [Bd.returns] at h; cases h)
  refine ⟨_, _, ?_, hrun, hended, _, _, rfl, ?_, ⟨_, rfl⟩, hW, hsame.mono (by decide) (by decide)⟩
  · skip
    have q := K19 _ (retOut X12 hx Bd.returns rfl (Or.inr (Or.inr (Or.inr (Or.inr ⟨rfl, rfl, rfl⟩)))) (hb hby ofb_d22) hr)
    rw [hP0] at q; exact q
  · show QO Z n fa h0 n0 _ T12.heap _
    rw [e12]
    exact ⟨b0, b16, rfl, N12, Kp12, sz_b0, F13, F14, F17, F18⟩
theorem rm_of (l : Launch) (Z : State) (a0 : Array Value) (hw : ∀ d ∈ tables_1, d.before a0 Z = true) (ws : List Jvm.Cond) (r0 : Addr) (p1 : Int32) (fa : Nat → Int32) (n : Nat) (h0 : Heap) (n0 : Nat) (Z0 : n0 ≤ h0.size) (Va : IA Z h0 r0 .byte 32 fa) (Ea : Exa Z h0 r0 "[B") (hp1 : p1 = Int32.ofNat n) (hn : n ≤ 32) :
    MetFree l (⟨"com/example/trimhash/trimhash/HashPrefix", "of", "([BI)Lcom/example/trimhash/trimhash/HashPrefix;"⟩ : MethodName) (head1 (Jvm.Cond.code (⟨"com/example/trimhash/trimhash/HashPrefix", "of", "([BI)Lcom/example/trimhash/trimhash/HashPrefix;"⟩ : MethodName) prog_1_method_6_code 2 (some (.object "com/example/trimhash/trimhash/HashPrefix")) :: ws) ({ frames := 3, cells := 2, slots := 33, locals := 100 } : Room)) (fun a U => a = #[(.ref r0), (.int p1)] ∧ Z.Warmed39 U.vm ∧ U.heap = h0) (fun _ _ _ _ _ => True) (fun _ U o U' => ∃ v L, o = .returned v ∧ QO Z n fa h0 n0 v U'.heap L ∧ FrameEnd U o U' L ({ frames := 3, cells := 2, slots := 33, locals := 100 } : Room).cells ({ frames := 3, cells := 2, slots := 33, locals := 100 } : Room).slots) := by
  by_cases q : n = 32
  · exact rm_ofa l Z a0 hw ws r0 p1 fa n h0 n0 Z0 Va Ea hp1 q
  · exact rm_ofb l Z a0 hw ws r0 p1 fa n h0 n0 Z0 Va Ea hp1 (by omega)
theorem tba_d0 : decode prog_1_method_8_code 0 = .ok (.aload_n 0, 1) := by decide +kernel
theorem tba_d1 : decode prog_1_method_8_code 1 = .ok (.getfield 7, 3) := by decide +kernel
theorem tba_d4 : decode prog_1_method_8_code 4 = .ok (.invokevirtual 84, 3) := by decide +kernel
theorem tba_d7 : decode prog_1_method_8_code 7 = .ok (.checkcast 85, 3) := by decide +kernel
theorem tba_d10 : decode prog_1_method_8_code 10 = .ok (.areturn, 1) := by decide +kernel
theorem tba_pn : plainName "com/example/trimhash/trimhash/HashPrefix" = true := by first | (simp [plainName, overriddenIn]; done) | decide +kernel
theorem tba_ef (m : MethodId) (x0 : Addr) : entryFrame m #[(.ref x0)] 1 = mkF m 0 #[.val (.ref x0)] [] := by first | (simp [entryFrame, mkF, argsToLocals, Value.category]; done) | rfl
set_option maxRecDepth 65536 in
set_option maxHeartbeats 40000000 in
theorem rm_tba (l : Launch) (Z : State) (a0 : Array Value) (hw : ∀ d ∈ tables_1, d.before a0 Z = true) (ws : List Jvm.Cond) (r0 : Addr) (bb : Addr) (fa : Nat → Int32) (n : Nat) (h0 : Heap) (n0 : Nat) (Z0 : n0 ≤ h0.size) (F0 : Fld Z h0 r0 "com/example/trimhash/trimhash/HashPrefix" "bytes" "[B" (.ref bb)) (Vb : IA Z h0 bb .byte n fa) (Eb : Exa Z h0 bb "[B") (hn : n ≤ 32) :
    MetFree l (⟨"com/example/trimhash/trimhash/HashPrefix", "toByteArray", "()[B"⟩ : MethodName) (head1 (Jvm.Cond.code (⟨"com/example/trimhash/trimhash/HashPrefix", "toByteArray", "()[B"⟩ : MethodName) prog_1_method_8_code 1 (some (.array .byte)) :: ws) ({ frames := 1, cells := 1, slots := 32, locals := 14 } : Room)) (fun a U => a = #[(.ref r0)] ∧ Z.Warmed39 U.vm ∧ U.heap = h0) (fun _ _ _ _ _ => True) (fun _ U o U' => ∃ v L, o = .returned v ∧ QC Z n fa h0 n0 v U'.heap L ∧ FrameEnd U o U' L ({ frames := 1, cells := 1, slots := 32, locals := 14 } : Room).cells ({ frames := 1, cells := 1, slots := 32, locals := 14 } : Room).slots) := by
  refine MetFree.of_bodySF (plainFor_of_name tba_pn) hisR ?_
  intro p e s m args below meth c s₁ Bd hml0 hP hK
  obtain ⟨rfl, hZ, hh⟩ := hP
  have hx := Bd.exec
  have hby := Bd.bytes
  have hml : c.maxLocals = 1 := hml0
  have hown : s.vm.findClass "com/example/trimhash/trimhash/HashPrefix" = some m.cls := findClass_of_methodNamed Bd.named
  have hnm := (name_of_methodNamed Bd.named Bd.method).1
  have X0 : Stand p l e ({ frames := 1, cells := 1, slots := 32, locals := 14 } : Room) s m #[(.ref r0)] below meth c s₁ [] 0 0 := Stand.of_body Bd
  have e0 : s₁.heap = h0 := by rw [← hh, Bd.state]; rfl
  have N0 := Fr.nil n0
  obtain ⟨P0, hP0⟩ : ∃ P0 : State → Prop, P0 = fun t => Steps p.tables e below (s₁.setTop (entryFrame m #[(.ref r0)] 1)) t := ⟨_, rfl⟩
  have K0 : ∀ t, Steps p.tables e below (s₁.setTop (mkF m 0 #[.val (.ref r0)] [])) t → P0 t := by
    intro t k; rw [hP0]; exact castTop (tba_ef m r0) k
  obtain ⟨T1, X1, e1, st1⟩ := getF X0 hx hZ hown (host := "") (Or.inl (hw _ (List.mem_of_getElem? (i := 26) rfl))) Via.refl e0 F0 (g := (mkF m 1 #[.val (.ref r0)] [(.ref r0)])) rfl rfl (hb hby tba_d1)
  obtain ⟨T3, h3, X3, e3, E3, V3, Ea3, st3⟩ := clIA X1 hx hZ hown (hw _ (List.mem_of_getElem? (i := 33) rfl)) (hw _ (List.mem_of_getElem? (i := 34) rfl)) (hw _ (List.mem_of_getElem? (i := 38) rfl)) (hw _ (List.mem_of_getElem? (i := 36) rfl)) (hw _ (List.mem_of_getElem? (i := 37) rfl)) (hw _ (List.mem_of_getElem? (i := 39) rfl)) e1 Vb (by omega) Eb (g := (mkF m 4 #[.val (.ref r0)] [(.ref bb)])) rfl (by rw [hml]; rfl) rfl (hb hby tba_d4) (by decide) (W := 0) (cap := 32) (by show 2 * 0 + _ ≤ _; exact Nat.le_of_eq rfl) (by decide) hn (by decide) (by decide)
  obtain ⟨b4, g3⟩ : ∃ z, z = h0.size := ⟨_, rfl⟩
  have g_b4 : n0 ≤ b4 := Nat.le_trans Z0 (Nat.le_of_eq g3.symm)
  have ne_r0_b4 : r0 ≠ b4 := Nat.ne_of_lt (Nat.lt_of_lt_of_le F0.lt (Nat.le_of_eq g3.symm))
  have ne_bb_b4 : bb ≠ b4 := Nat.ne_of_lt (Nat.lt_of_lt_of_le Vb.lt (Nat.le_of_eq g3.symm))
  rw [← g3] at V3 Ea3 st3
  have sz_b4 : h0.size ≤ b4 := Nat.le_trans (Keep.refl h0 []).1 (Nat.le_of_eq g3.symm)
  have Z3 : n0 ≤ h3.size := Nat.le_trans Z0 E3.1
  have F4 : Fld Z h3 r0 "com/example/trimhash/trimhash/HashPrefix" "bytes" "[B" (.ref bb) := Fld.ext E3 F0
  have F5 : IA Z h3 bb .byte n fa := Vb.ext E3
  have F6 : Exa Z h3 bb "[B" := Exa.ext E3 Eb
  have Kp3 : Keep h0 h3 [] := (Keep.refl h0 []).ext E3
  obtain ⟨T7, X7, e7, st7⟩ := castY X3 hx hZ hown (hw _ (List.mem_of_getElem? (i := 40) rfl)) e3 (Ins.self Ea3) (g := (mkF m 7 #[.val (.ref r0)] [(.ref b4)])) rfl rfl (hb hby tba_d7)
  have K8 : ∀ t, Steps p.tables e below (T7.setTop (mkF m 10 #[.val (.ref r0)] [(.ref b4)])) t → P0 t := by
    intro t kt
    refine K0 t ?_
    show Steps p.tables e below (s₁.setTop (mkF m 0 #[.val (.ref r0)] [])) t
    refine XS.aloadN X0.here hx rfl (hb hby tba_d0) rfl rfl ?_
    show Steps p.tables e below (s₁.setTop (mkF m 1 #[.val (.ref r0)] [(.ref r0)])) t
    refine st1 _ ?_
    show Steps p.tables e below (T1.setTop (mkF m 4 #[.val (.ref r0)] [(.ref bb)])) t
    refine st3 _ ?_
    show Steps p.tables e below (T3.setTop (mkF m 7 #[.val (.ref r0)] [(.ref b4)])) t
    refine st7 _ ?_
    exact kt
  obtain ⟨fs, hr, hrun, hended, hW, hsame⟩ := X7.leave (v := some (.ref b4)) (fun h => by rw [Bd.returns] at h; cases h)
  refine ⟨_, _, ?_, hrun, hended, _, _, rfl, ?_, ⟨_, rfl⟩, hW, hsame.mono (by decide) (by decide)⟩
  · skip
    have q := K8 _ (retOut X7 hx Bd.returns rfl (Or.inr (Or.inr (Or.inr (Or.inr ⟨rfl, rfl, rfl⟩)))) (hb hby tba_d10) hr)
    rw [hP0] at q; exact q
  · show QC Z n fa h0 n0 _ T7.heap _
    rw [e7]
    exact ⟨b4, rfl, N0, Kp3, sz_b4, Ea3, V3⟩
theorem len_d0 : decode prog_1_method_7_code 0 = .ok (.aload_n 0, 1) := by decide +kernel
theorem len_d1 : decode prog_1_method_7_code 1 = .ok (.getfield 7, 3) := by decide +kernel
theorem len_d4 : decode prog_1_method_7_code 4 = .ok (.arraylength, 1) := by decide +kernel
theorem len_d5 : decode prog_1_method_7_code 5 = .ok (.ireturn, 1) := by decide +kernel
theorem len_pn : plainName "com/example/trimhash/trimhash/HashPrefix" = true := by first | (simp [plainName, overriddenIn]; done) | decide +kernel
theorem len_ef (m : MethodId) (x0 : Addr) : entryFrame m #[(.ref x0)] 1 = mkF m 0 #[.val (.ref x0)] [] := by first | (simp [entryFrame, mkF, argsToLocals, Value.category]; done) | rfl
set_option maxRecDepth 65536 in
set_option maxHeartbeats 40000000 in
theorem rm_len (l : Launch) (Z : State) (a0 : Array Value) (hw : ∀ d ∈ tables_1, d.before a0 Z = true) (ws : List Jvm.Cond) (r0 : Addr) (bb : Addr) (fa : Nat → Int32) (n : Nat) (h0 : Heap) (n0 : Nat) (Z0 : n0 ≤ h0.size) (F0 : Fld Z h0 r0 "com/example/trimhash/trimhash/HashPrefix" "bytes" "[B" (.ref bb)) (Vb : IA Z h0 bb .byte n fa) (Eb : Exa Z h0 bb "[B") (hn : n ≤ 32) :
    MetFree l (⟨"com/example/trimhash/trimhash/HashPrefix", "length", "()I"⟩ : MethodName) (head1 (Jvm.Cond.code (⟨"com/example/trimhash/trimhash/HashPrefix", "length", "()I"⟩ : MethodName) prog_1_method_7_code 1 (some .int) :: ws) ({ frames := 0, cells := 0, slots := 0, locals := 0 } : Room)) (fun a U => a = #[(.ref r0)] ∧ Z.Warmed39 U.vm ∧ U.heap = h0) (fun _ _ _ _ _ => True) (fun _ U o U' => ∃ v L, o = .returned v ∧ QP (.int (Nat.toInt32 n)) h0 n0 v U'.heap L ∧ FrameEnd U o U' L ({ frames := 0, cells := 0, slots := 0, locals := 0 } : Room).cells ({ frames := 0, cells := 0, slots := 0, locals := 0 } : Room).slots) := by
  refine MetFree.of_bodySF (plainFor_of_name len_pn) hisR ?_
  intro p e s m args below meth c s₁ Bd hml0 hP hK
  obtain ⟨rfl, hZ, hh⟩ := hP
  have hx := Bd.exec
  have hby := Bd.bytes
  have hml : c.maxLocals = 1 := hml0
  have hown : s.vm.findClass "com/example/trimhash/trimhash/HashPrefix" = some m.cls := findClass_of_methodNamed Bd.named
  have hnm := (name_of_methodNamed Bd.named Bd.method).1
  have X0 : Stand p l e ({ frames := 0, cells := 0, slots := 0, locals := 0 } : Room) s m #[(.ref r0)] below meth c s₁ [] 0 0 := Stand.of_body Bd
  have e0 : s₁.heap = h0 := by rw [← hh, Bd.state]; rfl
  have N0 := Fr.nil n0
  obtain ⟨P0, hP0⟩ : ∃ P0 : State → Prop, P0 = fun t => Steps p.tables e below (s₁.setTop (entryFrame m #[(.ref r0)] 1)) t := ⟨_, rfl⟩
  have K0 : ∀ t, Steps p.tables e below (s₁.setTop (mkF m 0 #[.val (.ref r0)] [])) t → P0 t := by
    intro t k; rw [hP0]; exact castTop (len_ef m r0) k
  obtain ⟨T1, X1, e1, st1⟩ := getF X0 hx hZ hown (host := "") (Or.inl (hw _ (List.mem_of_getElem? (i := 26) rfl))) Via.refl e0 F0 (g := (mkF m 1 #[.val (.ref r0)] [(.ref r0)])) rfl rfl (hb hby len_d1)
  have K2 : ∀ t, Steps p.tables e below (T1.setTop (mkF m 5 #[.val (.ref r0)] [(.int (Nat.toInt32 n))])) t → P0 t := by
    intro t kt
    refine K0 t ?_
    show Steps p.tables e below (s₁.setTop (mkF m 0 #[.val (.ref r0)] [])) t
    refine XS.aloadN X0.here hx rfl (hb hby len_d0) rfl rfl ?_
    show Steps p.tables e below (s₁.setTop (mkF m 1 #[.val (.ref r0)] [(.ref r0)])) t
    refine st1 _ ?_
    show Steps p.tables e below (T1.setTop (mkF m 4 #[.val (.ref r0)] [(.ref bb)])) t
    refine lnIA X1 hx hZ e1 Vb (z := (Nat.toInt32 n)) rfl (g := (mkF m 4 #[.val (.ref r0)] [(.ref bb)])) rfl rfl (hb hby len_d4) _ ?_
    exact kt
  obtain ⟨fs, hr, hrun, hended, hW, hsame⟩ := X1.leave (v := some (.int (Nat.toInt32 n))) (fun h => by rw [Bd.returns] at h; cases h)
  refine ⟨_, _, ?_, hrun, hended, _, _, rfl, ?_, ⟨_, rfl⟩, hW, hsame.mono (by decide) (by decide)⟩
  · skip
    have q := K2 _ (retI X1 hx Bd.returns (hb hby len_d5) hr)
    rw [hP0] at q; exact q
  · show QP _ h0 n0 _ T1.heap _
    rw [e1]
    exact ⟨rfl, N0, rfl⟩
theorem own_n {p4 v334 : Int32} (h : v334 = ((4 : Int32) + ((p4 &&& (2147483647 : Int32)) % (29 : Int32)))) : ∃ n : Nat, v334 = Int32.ofNat n ∧ 4 ≤ n ∧ n ≤ 32 := by
  obtain ⟨k, hk⟩ := own_mod p4 29 29 (by decide) (by decide)
  have hk2 := k.isLt
  refine ⟨4 + k.val, ?_, by omega, by omega⟩
  rw [h, hk, Int32.ofNat_add]; rfl
theorem own_nzn {v334 : Int32} {n : Nat} (hn : v334 = Int32.ofNat n) (hn4 : 4 ≤ n) (hn32 : n ≤ 32) : v334 ≠ 0 := by
  intro q; have := congrArg Int32.toNatClampNeg q; rw [hn, own_ofNat_nat (by omega)] at this
  have e : (0 : Int32).toNatClampNeg = 0 := by decide
  omega
theorem own_i {p5 v334 : Int32} {n : Nat} (hn : v334 = Int32.ofNat n) (hn4 : 4 ≤ n) (hn32 : n ≤ 32) : ∃ i : Nat, ((p5 &&& (2147483647 : Int32)) % v334) = Int32.ofNat i ∧ i < n := by
  have e : v334.toInt = n := by rw [hn]; exact own_ofNat_toInt (by omega)
  obtain ⟨k, hk⟩ := own_mod p5 v334 n e (by omega)
  exact ⟨k.val, hk, k.isLt⟩
theorem own_ini {p5 v334 v380 : Int32} {n : Nat} (hn : v334 = Int32.ofNat n) (hn4 : 4 ≤ n) (hn32 : n ≤ 32) (h : v380 = ((p5 &&& (2147483647 : Int32)) % v334)) : ¬ (v380 < 0 ∨ n ≤ v380.toNatClampNeg) := by
  obtain ⟨i, hi, hl⟩ := own_i (p5 := p5) hn hn4 hn32
  rw [h, hi]; exact own_ofNat_in hl (by omega)
theorem own_inh {p5 v334 v380 : Int32} {n : Nat} (hn : v334 = Int32.ofNat n) (hn4 : 4 ≤ n) (hn32 : n ≤ 32) (h : v380 = ((p5 &&& (2147483647 : Int32)) % v334)) : ¬ (v380 < 0 ∨ 32 ≤ v380.toNatClampNeg) := by
  obtain ⟨i, hi, hl⟩ := own_i (p5 := p5) hn hn4 hn32
  rw [h, hi]; exact own_ofNat_in (by omega) (by omega)
theorem own_in0 {n : Nat} (hn4 : 4 ≤ n) : ¬ ((0 : Int32) < 0 ∨ n ≤ (0 : Int32).toNatClampNeg) := by
  have e : (0 : Int32).toNatClampNeg = 0 := by decide
  have e2 : ¬ (0 : Int32) < 0 := by decide
  rw [e]; intro q; rcases q with q | q
  · exact e2 q
  · omega
theorem own_last {v334 : Int32} {n : Nat} (hn : v334 = Int32.ofNat n) (hn4 : 4 ≤ n) : (v334 - (1 : Int32)) = Int32.ofNat (n - 1) := by
  have e : n = (n - 1) + 1 := by omega
  rw [hn]
  conv => lhs; rw [e, Int32.ofNat_add]
  grind
theorem own_inl {v334 : Int32} {n : Nat} (hn : v334 = Int32.ofNat n) (hn4 : 4 ≤ n) (hn32 : n ≤ 32) : ¬ ((v334 - (1 : Int32)) < 0 ∨ n ≤ (v334 - (1 : Int32)).toNatClampNeg) := by
  rw [own_last hn hn4]; exact own_ofNat_in (by omega) (by omega)
theorem own_sh0 (q : Int64) : (((q.toUInt64 >>> ((0 : Int32) &&& 0x3f).toInt64.toUInt64).toInt64).toInt32) = q.toInt32 := by
  have e : ((0 : Int32) &&& 0x3f).toInt64.toUInt64 = 0 := by decide
  rw [e, UInt64.shiftRight_zero]; rfl
set_option maxHeartbeats 4000000 in
set_option maxRecDepth 65536 in
theorem own_plain (q0 : Int64) (q1 : Int64) (q2 : Int64) (q3 : Int64) (p4 : Int32) (p5 : Int32) (f2 : Nat → Int32) (f9 : Nat → Int32) (f18 : Nat → Int32) (f27 : Nat → Int32) (f36 : Nat → Int32) (f45 : Nat → Int32) (f54 : Nat → Int32) (f64 : Nat → Int32) (f74 : Nat → Int32) (f81 : Nat → Int32) (f91 : Nat → Int32) (f101 : Nat → Int32) (f111 : Nat → Int32) (f121 : Nat → Int32) (f131 : Nat → Int32) (f141 : Nat → Int32) (f151 : Nat → Int32) (f159 : Nat → Int32) (f170 : Nat → Int32) (f181 : Nat → Int32) (f192 : Nat → Int32) (f203 : Nat → Int32) (f214 : Nat → Int32) (f225 : Nat → Int32) (f236 : Nat → Int32) (f244 : Nat → Int32) (f255 : Nat → Int32) (f266 : Nat → Int32) (f277 : Nat → Int32) (f288 : Nat → Int32) (f299 : Nat → Int32) (f310 : Nat → Int32) (f321 : Nat → Int32) (v334 : Int32) (n : Nat) (jx359 : Int32)
    (hf2 : f2 = (fun _ => (0 : Int32)))
    (hf9 : f9 = (upd f2 ((0 : Int32)).toNatClampNeg (nar .byte ((q0.toInt32).toInt8.toInt32))))
    (hf18 : f18 = (upd f9 ((1 : Int32)).toNatClampNeg (nar .byte ((((q0.toUInt64 >>> ((8 : Int32) &&& 0x3f).toInt64.toUInt64).toInt64).toInt32).toInt8.toInt32))))
    (hf27 : f27 = (upd f18 ((2 : Int32)).toNatClampNeg (nar .byte ((((q0.toUInt64 >>> ((16 : Int32) &&& 0x3f).toInt64.toUInt64).toInt64).toInt32).toInt8.toInt32))))
    (hf36 : f36 = (upd f27 ((3 : Int32)).toNatClampNeg (nar .byte ((((q0.toUInt64 >>> ((24 : Int32) &&& 0x3f).toInt64.toUInt64).toInt64).toInt32).toInt8.toInt32))))
    (hf45 : f45 = (upd f36 ((4 : Int32)).toNatClampNeg (nar .byte ((((q0.toUInt64 >>> ((32 : Int32) &&& 0x3f).toInt64.toUInt64).toInt64).toInt32).toInt8.toInt32))))
    (hf54 : f54 = (upd f45 ((5 : Int32)).toNatClampNeg (nar .byte ((((q0.toUInt64 >>> ((40 : Int32) &&& 0x3f).toInt64.toUInt64).toInt64).toInt32).toInt8.toInt32))))
    (hf64 : f64 = (upd f54 ((6 : Int32)).toNatClampNeg (nar .byte ((((q0.toUInt64 >>> ((48 : Int32) &&& 0x3f).toInt64.toUInt64).toInt64).toInt32).toInt8.toInt32))))
    (hf74 : f74 = (upd f64 ((7 : Int32)).toNatClampNeg (nar .byte ((((q0.toUInt64 >>> ((56 : Int32) &&& 0x3f).toInt64.toUInt64).toInt64).toInt32).toInt8.toInt32))))
    (hf81 : f81 = (upd f74 ((8 : Int32)).toNatClampNeg (nar .byte ((q1.toInt32).toInt8.toInt32))))
    (hf91 : f91 = (upd f81 ((9 : Int32)).toNatClampNeg (nar .byte ((((q1.toUInt64 >>> ((8 : Int32) &&& 0x3f).toInt64.toUInt64).toInt64).toInt32).toInt8.toInt32))))
    (hf101 : f101 = (upd f91 ((10 : Int32)).toNatClampNeg (nar .byte ((((q1.toUInt64 >>> ((16 : Int32) &&& 0x3f).toInt64.toUInt64).toInt64).toInt32).toInt8.toInt32))))
    (hf111 : f111 = (upd f101 ((11 : Int32)).toNatClampNeg (nar .byte ((((q1.toUInt64 >>> ((24 : Int32) &&& 0x3f).toInt64.toUInt64).toInt64).toInt32).toInt8.toInt32))))
    (hf121 : f121 = (upd f111 ((12 : Int32)).toNatClampNeg (nar .byte ((((q1.toUInt64 >>> ((32 : Int32) &&& 0x3f).toInt64.toUInt64).toInt64).toInt32).toInt8.toInt32))))
    (hf131 : f131 = (upd f121 ((13 : Int32)).toNatClampNeg (nar .byte ((((q1.toUInt64 >>> ((40 : Int32) &&& 0x3f).toInt64.toUInt64).toInt64).toInt32).toInt8.toInt32))))
    (hf141 : f141 = (upd f131 ((14 : Int32)).toNatClampNeg (nar .byte ((((q1.toUInt64 >>> ((48 : Int32) &&& 0x3f).toInt64.toUInt64).toInt64).toInt32).toInt8.toInt32))))
    (hf151 : f151 = (upd f141 ((15 : Int32)).toNatClampNeg (nar .byte ((((q1.toUInt64 >>> ((56 : Int32) &&& 0x3f).toInt64.toUInt64).toInt64).toInt32).toInt8.toInt32))))
    (hf159 : f159 = (upd f151 ((16 : Int32)).toNatClampNeg (nar .byte ((q2.toInt32).toInt8.toInt32))))
    (hf170 : f170 = (upd f159 ((17 : Int32)).toNatClampNeg (nar .byte ((((q2.toUInt64 >>> ((8 : Int32) &&& 0x3f).toInt64.toUInt64).toInt64).toInt32).toInt8.toInt32))))
    (hf181 : f181 = (upd f170 ((18 : Int32)).toNatClampNeg (nar .byte ((((q2.toUInt64 >>> ((16 : Int32) &&& 0x3f).toInt64.toUInt64).toInt64).toInt32).toInt8.toInt32))))
    (hf192 : f192 = (upd f181 ((19 : Int32)).toNatClampNeg (nar .byte ((((q2.toUInt64 >>> ((24 : Int32) &&& 0x3f).toInt64.toUInt64).toInt64).toInt32).toInt8.toInt32))))
    (hf203 : f203 = (upd f192 ((20 : Int32)).toNatClampNeg (nar .byte ((((q2.toUInt64 >>> ((32 : Int32) &&& 0x3f).toInt64.toUInt64).toInt64).toInt32).toInt8.toInt32))))
    (hf214 : f214 = (upd f203 ((21 : Int32)).toNatClampNeg (nar .byte ((((q2.toUInt64 >>> ((40 : Int32) &&& 0x3f).toInt64.toUInt64).toInt64).toInt32).toInt8.toInt32))))
    (hf225 : f225 = (upd f214 ((22 : Int32)).toNatClampNeg (nar .byte ((((q2.toUInt64 >>> ((48 : Int32) &&& 0x3f).toInt64.toUInt64).toInt64).toInt32).toInt8.toInt32))))
    (hf236 : f236 = (upd f225 ((23 : Int32)).toNatClampNeg (nar .byte ((((q2.toUInt64 >>> ((56 : Int32) &&& 0x3f).toInt64.toUInt64).toInt64).toInt32).toInt8.toInt32))))
    (hf244 : f244 = (upd f236 ((24 : Int32)).toNatClampNeg (nar .byte ((q3.toInt32).toInt8.toInt32))))
    (hf255 : f255 = (upd f244 ((25 : Int32)).toNatClampNeg (nar .byte ((((q3.toUInt64 >>> ((8 : Int32) &&& 0x3f).toInt64.toUInt64).toInt64).toInt32).toInt8.toInt32))))
    (hf266 : f266 = (upd f255 ((26 : Int32)).toNatClampNeg (nar .byte ((((q3.toUInt64 >>> ((16 : Int32) &&& 0x3f).toInt64.toUInt64).toInt64).toInt32).toInt8.toInt32))))
    (hf277 : f277 = (upd f266 ((27 : Int32)).toNatClampNeg (nar .byte ((((q3.toUInt64 >>> ((24 : Int32) &&& 0x3f).toInt64.toUInt64).toInt64).toInt32).toInt8.toInt32))))
    (hf288 : f288 = (upd f277 ((28 : Int32)).toNatClampNeg (nar .byte ((((q3.toUInt64 >>> ((32 : Int32) &&& 0x3f).toInt64.toUInt64).toInt64).toInt32).toInt8.toInt32))))
    (hf299 : f299 = (upd f288 ((29 : Int32)).toNatClampNeg (nar .byte ((((q3.toUInt64 >>> ((40 : Int32) &&& 0x3f).toInt64.toUInt64).toInt64).toInt32).toInt8.toInt32))))
    (hf310 : f310 = (upd f299 ((30 : Int32)).toNatClampNeg (nar .byte ((((q3.toUInt64 >>> ((48 : Int32) &&& 0x3f).toInt64.toUInt64).toInt64).toInt32).toInt8.toInt32))))
    (hf321 : f321 = (upd f310 ((31 : Int32)).toNatClampNeg (nar .byte ((((q3.toUInt64 >>> ((56 : Int32) &&& 0x3f).toInt64.toUInt64).toInt64).toInt32).toInt8.toInt32))))
    (hv334 : v334 = ((4 : Int32) + ((p4 &&& (2147483647 : Int32)) % (29 : Int32))))
    (hn : v334 = Int32.ofNat n)
    (hn4 : 4 ≤ n)
    (hn32 : n ≤ 32)
    (hjx359 : jx359 = (if (Nat.toInt32 n) = v334 then (if (Nat.toInt32 n) = v334 then (if (f321 (((p5 &&& (2147483647 : Int32)) % v334)).toNatClampNeg) = (fRef q0 q1 q2 q3 ((p5 &&& (2147483647 : Int32)) % v334)) then (if (f321 ((0 : Int32)).toNatClampNeg) = (fRef q0 q1 q2 q3 (0 : Int32)) then (if (f321 ((v334 - (1 : Int32))).toNatClampNeg) = (fRef q0 q1 q2 q3 (v334 - (1 : Int32))) then (if (f321 (((p5 &&& (2147483647 : Int32)) % v334)).toNatClampNeg) = (fRef q0 q1 q2 q3 ((p5 &&& (2147483647 : Int32)) % v334)) then (if (f321 ((31 : Int32)).toNatClampNeg) = (fRef q0 q1 q2 q3 (31 : Int32)) then (1 : Int32) else (0 : Int32)) else (0 : Int32)) else (0 : Int32)) else (0 : Int32)) else (0 : Int32)) else (0 : Int32)) else (0 : Int32))) :
    jx359 = 1 := by
  have y0 : f321 0 = nar .byte ((q0.toInt32).toInt8.toInt32) := by
    rw [hf321, hf310, hf299, hf288, hf277, hf266, hf255, hf244, hf236, hf225, hf214, hf203, hf192, hf181, hf170, hf159, hf151, hf141, hf131, hf121, hf111, hf101, hf91, hf81, hf74, hf64, hf54, hf45, hf36, hf27, hf18, hf9]; rfl
  have y1 : f321 1 = nar .byte ((((q0.toUInt64 >>> ((8 : Int32) &&& 0x3f).toInt64.toUInt64).toInt64).toInt32).toInt8.toInt32) := by
    rw [hf321, hf310, hf299, hf288, hf277, hf266, hf255, hf244, hf236, hf225, hf214, hf203, hf192, hf181, hf170, hf159, hf151, hf141, hf131, hf121, hf111, hf101, hf91, hf81, hf74, hf64, hf54, hf45, hf36, hf27, hf18]; rfl
  have y2 : f321 2 = nar .byte ((((q0.toUInt64 >>> ((16 : Int32) &&& 0x3f).toInt64.toUInt64).toInt64).toInt32).toInt8.toInt32) := by
    rw [hf321, hf310, hf299, hf288, hf277, hf266, hf255, hf244, hf236, hf225, hf214, hf203, hf192, hf181, hf170, hf159, hf151, hf141, hf131, hf121, hf111, hf101, hf91, hf81, hf74, hf64, hf54, hf45, hf36, hf27]; rfl
  have y3 : f321 3 = nar .byte ((((q0.toUInt64 >>> ((24 : Int32) &&& 0x3f).toInt64.toUInt64).toInt64).toInt32).toInt8.toInt32) := by
    rw [hf321, hf310, hf299, hf288, hf277, hf266, hf255, hf244, hf236, hf225, hf214, hf203, hf192, hf181, hf170, hf159, hf151, hf141, hf131, hf121, hf111, hf101, hf91, hf81, hf74, hf64, hf54, hf45, hf36]; rfl
  have y4 : f321 4 = nar .byte ((((q0.toUInt64 >>> ((32 : Int32) &&& 0x3f).toInt64.toUInt64).toInt64).toInt32).toInt8.toInt32) := by
    rw [hf321, hf310, hf299, hf288, hf277, hf266, hf255, hf244, hf236, hf225, hf214, hf203, hf192, hf181, hf170, hf159, hf151, hf141, hf131, hf121, hf111, hf101, hf91, hf81, hf74, hf64, hf54, hf45]; rfl
  have y5 : f321 5 = nar .byte ((((q0.toUInt64 >>> ((40 : Int32) &&& 0x3f).toInt64.toUInt64).toInt64).toInt32).toInt8.toInt32) := by
    rw [hf321, hf310, hf299, hf288, hf277, hf266, hf255, hf244, hf236, hf225, hf214, hf203, hf192, hf181, hf170, hf159, hf151, hf141, hf131, hf121, hf111, hf101, hf91, hf81, hf74, hf64, hf54]; rfl
  have y6 : f321 6 = nar .byte ((((q0.toUInt64 >>> ((48 : Int32) &&& 0x3f).toInt64.toUInt64).toInt64).toInt32).toInt8.toInt32) := by
    rw [hf321, hf310, hf299, hf288, hf277, hf266, hf255, hf244, hf236, hf225, hf214, hf203, hf192, hf181, hf170, hf159, hf151, hf141, hf131, hf121, hf111, hf101, hf91, hf81, hf74, hf64]; rfl
  have y7 : f321 7 = nar .byte ((((q0.toUInt64 >>> ((56 : Int32) &&& 0x3f).toInt64.toUInt64).toInt64).toInt32).toInt8.toInt32) := by
    rw [hf321, hf310, hf299, hf288, hf277, hf266, hf255, hf244, hf236, hf225, hf214, hf203, hf192, hf181, hf170, hf159, hf151, hf141, hf131, hf121, hf111, hf101, hf91, hf81, hf74]; rfl
  have y8 : f321 8 = nar .byte ((q1.toInt32).toInt8.toInt32) := by
    rw [hf321, hf310, hf299, hf288, hf277, hf266, hf255, hf244, hf236, hf225, hf214, hf203, hf192, hf181, hf170, hf159, hf151, hf141, hf131, hf121, hf111, hf101, hf91, hf81]; rfl
  have y9 : f321 9 = nar .byte ((((q1.toUInt64 >>> ((8 : Int32) &&& 0x3f).toInt64.toUInt64).toInt64).toInt32).toInt8.toInt32) := by
    rw [hf321, hf310, hf299, hf288, hf277, hf266, hf255, hf244, hf236, hf225, hf214, hf203, hf192, hf181, hf170, hf159, hf151, hf141, hf131, hf121, hf111, hf101, hf91]; rfl
  have y10 : f321 10 = nar .byte ((((q1.toUInt64 >>> ((16 : Int32) &&& 0x3f).toInt64.toUInt64).toInt64).toInt32).toInt8.toInt32) := by
    rw [hf321, hf310, hf299, hf288, hf277, hf266, hf255, hf244, hf236, hf225, hf214, hf203, hf192, hf181, hf170, hf159, hf151, hf141, hf131, hf121, hf111, hf101]; rfl
  have y11 : f321 11 = nar .byte ((((q1.toUInt64 >>> ((24 : Int32) &&& 0x3f).toInt64.toUInt64).toInt64).toInt32).toInt8.toInt32) := by
    rw [hf321, hf310, hf299, hf288, hf277, hf266, hf255, hf244, hf236, hf225, hf214, hf203, hf192, hf181, hf170, hf159, hf151, hf141, hf131, hf121, hf111]; rfl
  have y12 : f321 12 = nar .byte ((((q1.toUInt64 >>> ((32 : Int32) &&& 0x3f).toInt64.toUInt64).toInt64).toInt32).toInt8.toInt32) := by
    rw [hf321, hf310, hf299, hf288, hf277, hf266, hf255, hf244, hf236, hf225, hf214, hf203, hf192, hf181, hf170, hf159, hf151, hf141, hf131, hf121]; rfl
  have y13 : f321 13 = nar .byte ((((q1.toUInt64 >>> ((40 : Int32) &&& 0x3f).toInt64.toUInt64).toInt64).toInt32).toInt8.toInt32) := by
    rw [hf321, hf310, hf299, hf288, hf277, hf266, hf255, hf244, hf236, hf225, hf214, hf203, hf192, hf181, hf170, hf159, hf151, hf141, hf131]; rfl
  have y14 : f321 14 = nar .byte ((((q1.toUInt64 >>> ((48 : Int32) &&& 0x3f).toInt64.toUInt64).toInt64).toInt32).toInt8.toInt32) := by
    rw [hf321, hf310, hf299, hf288, hf277, hf266, hf255, hf244, hf236, hf225, hf214, hf203, hf192, hf181, hf170, hf159, hf151, hf141]; rfl
  have y15 : f321 15 = nar .byte ((((q1.toUInt64 >>> ((56 : Int32) &&& 0x3f).toInt64.toUInt64).toInt64).toInt32).toInt8.toInt32) := by
    rw [hf321, hf310, hf299, hf288, hf277, hf266, hf255, hf244, hf236, hf225, hf214, hf203, hf192, hf181, hf170, hf159, hf151]; rfl
  have y16 : f321 16 = nar .byte ((q2.toInt32).toInt8.toInt32) := by
    rw [hf321, hf310, hf299, hf288, hf277, hf266, hf255, hf244, hf236, hf225, hf214, hf203, hf192, hf181, hf170, hf159]; rfl
  have y17 : f321 17 = nar .byte ((((q2.toUInt64 >>> ((8 : Int32) &&& 0x3f).toInt64.toUInt64).toInt64).toInt32).toInt8.toInt32) := by
    rw [hf321, hf310, hf299, hf288, hf277, hf266, hf255, hf244, hf236, hf225, hf214, hf203, hf192, hf181, hf170]; rfl
  have y18 : f321 18 = nar .byte ((((q2.toUInt64 >>> ((16 : Int32) &&& 0x3f).toInt64.toUInt64).toInt64).toInt32).toInt8.toInt32) := by
    rw [hf321, hf310, hf299, hf288, hf277, hf266, hf255, hf244, hf236, hf225, hf214, hf203, hf192, hf181]; rfl
  have y19 : f321 19 = nar .byte ((((q2.toUInt64 >>> ((24 : Int32) &&& 0x3f).toInt64.toUInt64).toInt64).toInt32).toInt8.toInt32) := by
    rw [hf321, hf310, hf299, hf288, hf277, hf266, hf255, hf244, hf236, hf225, hf214, hf203, hf192]; rfl
  have y20 : f321 20 = nar .byte ((((q2.toUInt64 >>> ((32 : Int32) &&& 0x3f).toInt64.toUInt64).toInt64).toInt32).toInt8.toInt32) := by
    rw [hf321, hf310, hf299, hf288, hf277, hf266, hf255, hf244, hf236, hf225, hf214, hf203]; rfl
  have y21 : f321 21 = nar .byte ((((q2.toUInt64 >>> ((40 : Int32) &&& 0x3f).toInt64.toUInt64).toInt64).toInt32).toInt8.toInt32) := by
    rw [hf321, hf310, hf299, hf288, hf277, hf266, hf255, hf244, hf236, hf225, hf214]; rfl
  have y22 : f321 22 = nar .byte ((((q2.toUInt64 >>> ((48 : Int32) &&& 0x3f).toInt64.toUInt64).toInt64).toInt32).toInt8.toInt32) := by
    rw [hf321, hf310, hf299, hf288, hf277, hf266, hf255, hf244, hf236, hf225]; rfl
  have y23 : f321 23 = nar .byte ((((q2.toUInt64 >>> ((56 : Int32) &&& 0x3f).toInt64.toUInt64).toInt64).toInt32).toInt8.toInt32) := by
    rw [hf321, hf310, hf299, hf288, hf277, hf266, hf255, hf244, hf236]; rfl
  have y24 : f321 24 = nar .byte ((q3.toInt32).toInt8.toInt32) := by
    rw [hf321, hf310, hf299, hf288, hf277, hf266, hf255, hf244]; rfl
  have y25 : f321 25 = nar .byte ((((q3.toUInt64 >>> ((8 : Int32) &&& 0x3f).toInt64.toUInt64).toInt64).toInt32).toInt8.toInt32) := by
    rw [hf321, hf310, hf299, hf288, hf277, hf266, hf255]; rfl
  have y26 : f321 26 = nar .byte ((((q3.toUInt64 >>> ((16 : Int32) &&& 0x3f).toInt64.toUInt64).toInt64).toInt32).toInt8.toInt32) := by
    rw [hf321, hf310, hf299, hf288, hf277, hf266]; rfl
  have y27 : f321 27 = nar .byte ((((q3.toUInt64 >>> ((24 : Int32) &&& 0x3f).toInt64.toUInt64).toInt64).toInt32).toInt8.toInt32) := by
    rw [hf321, hf310, hf299, hf288, hf277]; rfl
  have y28 : f321 28 = nar .byte ((((q3.toUInt64 >>> ((32 : Int32) &&& 0x3f).toInt64.toUInt64).toInt64).toInt32).toInt8.toInt32) := by
    rw [hf321, hf310, hf299, hf288]; rfl
  have y29 : f321 29 = nar .byte ((((q3.toUInt64 >>> ((40 : Int32) &&& 0x3f).toInt64.toUInt64).toInt64).toInt32).toInt8.toInt32) := by
    rw [hf321, hf310, hf299]; rfl
  have y30 : f321 30 = nar .byte ((((q3.toUInt64 >>> ((48 : Int32) &&& 0x3f).toInt64.toUInt64).toInt64).toInt32).toInt8.toInt32) := by
    rw [hf321, hf310]; rfl
  have y31 : f321 31 = nar .byte ((((q3.toUInt64 >>> ((56 : Int32) &&& 0x3f).toInt64.toUInt64).toInt64).toInt32).toInt8.toInt32) := by
    rw [hf321]; rfl
  clear hf2 hf9 hf18 hf27 hf36 hf45 hf54 hf64 hf74 hf81 hf91 hf101 hf111 hf121 hf131 hf141 hf151 hf159 hf170 hf181 hf192 hf203 hf214 hf225 hf236 hf244 hf255 hf266 hf277 hf288 hf299 hf310 hf321
  have z0 : f321 0 = fRef q0 q1 q2 q3 (0 : Int32) := by
    simp only [fRef]
    rw [if_pos (by decide), y0, show ((8 : Int32) * ((0 : Int32) &&& (7 : Int32))) = (0 : Int32) by decide]
    rw [own_sh0]
  have z1 : f321 1 = fRef q0 q1 q2 q3 (1 : Int32) := by
    simp only [fRef]
    rw [if_pos (by decide), y1, show ((8 : Int32) * ((1 : Int32) &&& (7 : Int32))) = (8 : Int32) by decide]
  have z2 : f321 2 = fRef q0 q1 q2 q3 (2 : Int32) := by
    simp only [fRef]
    rw [if_pos (by decide), y2, show ((8 : Int32) * ((2 : Int32) &&& (7 : Int32))) = (16 : Int32) by decide]
  have z3 : f321 3 = fRef q0 q1 q2 q3 (3 : Int32) := by
    simp only [fRef]
    rw [if_pos (by decide), y3, show ((8 : Int32) * ((3 : Int32) &&& (7 : Int32))) = (24 : Int32) by decide]
  have z4 : f321 4 = fRef q0 q1 q2 q3 (4 : Int32) := by
    simp only [fRef]
    rw [if_pos (by decide), y4, show ((8 : Int32) * ((4 : Int32) &&& (7 : Int32))) = (32 : Int32) by decide]
  have z5 : f321 5 = fRef q0 q1 q2 q3 (5 : Int32) := by
    simp only [fRef]
    rw [if_pos (by decide), y5, show ((8 : Int32) * ((5 : Int32) &&& (7 : Int32))) = (40 : Int32) by decide]
  have z6 : f321 6 = fRef q0 q1 q2 q3 (6 : Int32) := by
    simp only [fRef]
    rw [if_pos (by decide), y6, show ((8 : Int32) * ((6 : Int32) &&& (7 : Int32))) = (48 : Int32) by decide]
  have z7 : f321 7 = fRef q0 q1 q2 q3 (7 : Int32) := by
    simp only [fRef]
    rw [if_pos (by decide), y7, show ((8 : Int32) * ((7 : Int32) &&& (7 : Int32))) = (56 : Int32) by decide]
  have z8 : f321 8 = fRef q0 q1 q2 q3 (8 : Int32) := by
    simp only [fRef]
    rw [if_neg (by decide), if_pos (by decide), y8, show ((8 : Int32) * ((8 : Int32) &&& (7 : Int32))) = (0 : Int32) by decide]
    rw [own_sh0]
  have z9 : f321 9 = fRef q0 q1 q2 q3 (9 : Int32) := by
    simp only [fRef]
    rw [if_neg (by decide), if_pos (by decide), y9, show ((8 : Int32) * ((9 : Int32) &&& (7 : Int32))) = (8 : Int32) by decide]
  have z10 : f321 10 = fRef q0 q1 q2 q3 (10 : Int32) := by
    simp only [fRef]
    rw [if_neg (by decide), if_pos (by decide), y10, show ((8 : Int32) * ((10 : Int32) &&& (7 : Int32))) = (16 : Int32) by decide]
  have z11 : f321 11 = fRef q0 q1 q2 q3 (11 : Int32) := by
    simp only [fRef]
    rw [if_neg (by decide), if_pos (by decide), y11, show ((8 : Int32) * ((11 : Int32) &&& (7 : Int32))) = (24 : Int32) by decide]
  have z12 : f321 12 = fRef q0 q1 q2 q3 (12 : Int32) := by
    simp only [fRef]
    rw [if_neg (by decide), if_pos (by decide), y12, show ((8 : Int32) * ((12 : Int32) &&& (7 : Int32))) = (32 : Int32) by decide]
  have z13 : f321 13 = fRef q0 q1 q2 q3 (13 : Int32) := by
    simp only [fRef]
    rw [if_neg (by decide), if_pos (by decide), y13, show ((8 : Int32) * ((13 : Int32) &&& (7 : Int32))) = (40 : Int32) by decide]
  have z14 : f321 14 = fRef q0 q1 q2 q3 (14 : Int32) := by
    simp only [fRef]
    rw [if_neg (by decide), if_pos (by decide), y14, show ((8 : Int32) * ((14 : Int32) &&& (7 : Int32))) = (48 : Int32) by decide]
  have z15 : f321 15 = fRef q0 q1 q2 q3 (15 : Int32) := by
    simp only [fRef]
    rw [if_neg (by decide), if_pos (by decide), y15, show ((8 : Int32) * ((15 : Int32) &&& (7 : Int32))) = (56 : Int32) by decide]
  have z16 : f321 16 = fRef q0 q1 q2 q3 (16 : Int32) := by
    simp only [fRef]
    rw [if_neg (by decide), if_neg (by decide), if_pos (by decide), y16, show ((8 : Int32) * ((16 : Int32) &&& (7 : Int32))) = (0 : Int32) by decide]
    rw [own_sh0]
  have z17 : f321 17 = fRef q0 q1 q2 q3 (17 : Int32) := by
    simp only [fRef]
    rw [if_neg (by decide), if_neg (by decide), if_pos (by decide), y17, show ((8 : Int32) * ((17 : Int32) &&& (7 : Int32))) = (8 : Int32) by decide]
  have z18 : f321 18 = fRef q0 q1 q2 q3 (18 : Int32) := by
    simp only [fRef]
    rw [if_neg (by decide), if_neg (by decide), if_pos (by decide), y18, show ((8 : Int32) * ((18 : Int32) &&& (7 : Int32))) = (16 : Int32) by decide]
  have z19 : f321 19 = fRef q0 q1 q2 q3 (19 : Int32) := by
    simp only [fRef]
    rw [if_neg (by decide), if_neg (by decide), if_pos (by decide), y19, show ((8 : Int32) * ((19 : Int32) &&& (7 : Int32))) = (24 : Int32) by decide]
  have z20 : f321 20 = fRef q0 q1 q2 q3 (20 : Int32) := by
    simp only [fRef]
    rw [if_neg (by decide), if_neg (by decide), if_pos (by decide), y20, show ((8 : Int32) * ((20 : Int32) &&& (7 : Int32))) = (32 : Int32) by decide]
  have z21 : f321 21 = fRef q0 q1 q2 q3 (21 : Int32) := by
    simp only [fRef]
    rw [if_neg (by decide), if_neg (by decide), if_pos (by decide), y21, show ((8 : Int32) * ((21 : Int32) &&& (7 : Int32))) = (40 : Int32) by decide]
  have z22 : f321 22 = fRef q0 q1 q2 q3 (22 : Int32) := by
    simp only [fRef]
    rw [if_neg (by decide), if_neg (by decide), if_pos (by decide), y22, show ((8 : Int32) * ((22 : Int32) &&& (7 : Int32))) = (48 : Int32) by decide]
  have z23 : f321 23 = fRef q0 q1 q2 q3 (23 : Int32) := by
    simp only [fRef]
    rw [if_neg (by decide), if_neg (by decide), if_pos (by decide), y23, show ((8 : Int32) * ((23 : Int32) &&& (7 : Int32))) = (56 : Int32) by decide]
  have z24 : f321 24 = fRef q0 q1 q2 q3 (24 : Int32) := by
    simp only [fRef]
    rw [if_neg (by decide), if_neg (by decide), if_neg (by decide), y24, show ((8 : Int32) * ((24 : Int32) &&& (7 : Int32))) = (0 : Int32) by decide]
    rw [own_sh0]
  have z25 : f321 25 = fRef q0 q1 q2 q3 (25 : Int32) := by
    simp only [fRef]
    rw [if_neg (by decide), if_neg (by decide), if_neg (by decide), y25, show ((8 : Int32) * ((25 : Int32) &&& (7 : Int32))) = (8 : Int32) by decide]
  have z26 : f321 26 = fRef q0 q1 q2 q3 (26 : Int32) := by
    simp only [fRef]
    rw [if_neg (by decide), if_neg (by decide), if_neg (by decide), y26, show ((8 : Int32) * ((26 : Int32) &&& (7 : Int32))) = (16 : Int32) by decide]
  have z27 : f321 27 = fRef q0 q1 q2 q3 (27 : Int32) := by
    simp only [fRef]
    rw [if_neg (by decide), if_neg (by decide), if_neg (by decide), y27, show ((8 : Int32) * ((27 : Int32) &&& (7 : Int32))) = (24 : Int32) by decide]
  have z28 : f321 28 = fRef q0 q1 q2 q3 (28 : Int32) := by
    simp only [fRef]
    rw [if_neg (by decide), if_neg (by decide), if_neg (by decide), y28, show ((8 : Int32) * ((28 : Int32) &&& (7 : Int32))) = (32 : Int32) by decide]
  have z29 : f321 29 = fRef q0 q1 q2 q3 (29 : Int32) := by
    simp only [fRef]
    rw [if_neg (by decide), if_neg (by decide), if_neg (by decide), y29, show ((8 : Int32) * ((29 : Int32) &&& (7 : Int32))) = (40 : Int32) by decide]
  have z30 : f321 30 = fRef q0 q1 q2 q3 (30 : Int32) := by
    simp only [fRef]
    rw [if_neg (by decide), if_neg (by decide), if_neg (by decide), y30, show ((8 : Int32) * ((30 : Int32) &&& (7 : Int32))) = (48 : Int32) by decide]
  have z31 : f321 31 = fRef q0 q1 q2 q3 (31 : Int32) := by
    simp only [fRef]
    rw [if_neg (by decide), if_neg (by decide), if_neg (by decide), y31, show ((8 : Int32) * ((31 : Int32) &&& (7 : Int32))) = (56 : Int32) by decide]
  have all : ∀ i : Nat, i < 32 → f321 i = fRef q0 q1 q2 q3 (Int32.ofNat i) := by
    intro i hi
    have cs : i = 0 ∨ i = 1 ∨ i = 2 ∨ i = 3 ∨ i = 4 ∨ i = 5 ∨ i = 6 ∨ i = 7 ∨ i = 8 ∨ i = 9 ∨ i = 10 ∨ i = 11 ∨ i = 12 ∨ i = 13 ∨ i = 14 ∨ i = 15 ∨ i = 16 ∨ i = 17 ∨ i = 18 ∨ i = 19 ∨ i = 20 ∨ i = 21 ∨ i = 22 ∨ i = 23 ∨ i = 24 ∨ i = 25 ∨ i = 26 ∨ i = 27 ∨ i = 28 ∨ i = 29 ∨ i = 30 ∨ i = 31 := by omega
    rcases cs with rfl | rfl | rfl | rfl | rfl | rfl | rfl | rfl | rfl | rfl | rfl | rfl | rfl | rfl | rfl | rfl | rfl | rfl | rfl | rfl | rfl | rfl | rfl | rfl | rfl | rfl | rfl | rfl | rfl | rfl | rfl | rfl
    · exact z0
    · exact z1
    · exact z2
    · exact z3
    · exact z4
    · exact z5
    · exact z6
    · exact z7
    · exact z8
    · exact z9
    · exact z10
    · exact z11
    · exact z12
    · exact z13
    · exact z14
    · exact z15
    · exact z16
    · exact z17
    · exact z18
    · exact z19
    · exact z20
    · exact z21
    · exact z22
    · exact z23
    · exact z24
    · exact z25
    · exact z26
    · exact z27
    · exact z28
    · exact z29
    · exact z30
    · exact z31
  have en : Nat.toInt32 n = v334 := hn.symm
  obtain ⟨i, hi, hl⟩ := own_i (p5 := p5) hn hn4 hn32
  have a1 : f321 (((p5 &&& (2147483647 : Int32)) % v334)).toNatClampNeg = fRef q0 q1 q2 q3 ((p5 &&& (2147483647 : Int32)) % v334) := by
    rw [hi, own_ofNat_nat (by omega)]; exact all i (by omega)
  have a2 : f321 ((v334 - (1 : Int32))).toNatClampNeg = fRef q0 q1 q2 q3 (v334 - (1 : Int32)) := by
    rw [own_last hn hn4, own_ofNat_nat (by omega)]; exact all _ (by omega)
  rw [hjx359, if_pos en, if_pos en, if_pos a1, show (0 : Int32).toNatClampNeg = 0 by decide, if_pos z0, if_pos a2, if_pos a1, show (31 : Int32).toNatClampNeg = 31 by decide, if_pos z31]
theorem law_pn : plainName "com/example/trimhash/trimhash/HashPrefixOfPinLaw" = true := by first | (simp [plainName, overriddenIn]; done) | decide +kernel
theorem law_pd0 : parseMethodDescriptor "([BI)Lcom/example/trimhash/trimhash/HashPrefix;" = some ⟨[(.array .byte), .int], some (.object "com/example/trimhash/trimhash/HashPrefix")⟩ := by decide +kernel
theorem law_pd1 : parseMethodDescriptor "()[B" = some ⟨[], some (.array .byte)⟩ := by decide +kernel
theorem law_pd2 : parseMethodDescriptor "()I" = some ⟨[], some .int⟩ := by decide +kernel
theorem law_pd3 : parseMethodDescriptor "(JJJJI)B" = some ⟨[.long, .long, .long, .long, .int], some .byte⟩ := by decide +kernel
theorem law_ef (m : MethodId) (x0 : Int64) (x1 : Int64) (x2 : Int64) (x3 : Int64) (x4 : Int32) (x5 : Int32) : entryFrame m #[(.long x0), (.long x1), (.long x2), (.long x3), (.int x4), (.int x5)] maxLocals = mkF m 0 #[.val (.long x0), .second, .val (.long x1), .second, .val (.long x2), .second, .val (.long x3), .second, .val (.int x4), .val (.int x5), .unset, .unset, .unset, .unset, .unset] [] := by first | (simp [entryFrame, mkF, argsToLocals, Value.category, maxLocals]; done) | rfl
set_option maxRecDepth 65536 in
set_option maxHeartbeats 40000000 in
theorem rm_law (l : Launch) (Z : State) (a0 : Array Value) (hw : ∀ d ∈ tables_1, d.before a0 Z = true) (ws : List Jvm.Cond) (q0 : Int64) (q1 : Int64) (q2 : Int64) (q3 : Int64) (p4 : Int32) (p5 : Int32) (h0 : Heap) (n0 : Nat) (Z0 : n0 ≤ h0.size) :
    MetFree l x (head1 (Jvm.Cond.code x code maxLocals ret :: ws) room_1) (fun a U => a = #[(.long q0), (.long q1), (.long q2), (.long q3), (.int p4), (.int p5)] ∧ Z.Warmed39 U.vm ∧ U.heap = h0) (fun _ _ _ _ _ => True) (fun _ U o U' => ∃ v L, o = .returned v ∧ QL n0 v U'.heap L ∧ FrameEnd U o U' L room_1.cells room_1.slots) := by
  refine MetFree.of_bodySF (plainFor_of_name law_pn) hisR ?_
  intro p e s m args below meth c s₁ Bd hml0 hP hK
  obtain ⟨rfl, hZ, hh⟩ := hP
  have hx := Bd.exec
  have hby := Bd.bytes
  have hml : c.maxLocals = 15 := hml0
  have hown : s.vm.findClass "com/example/trimhash/trimhash/HashPrefixOfPinLaw" = some m.cls := findClass_of_methodNamed Bd.named
  have hnm := (name_of_methodNamed Bd.named Bd.method).1
  have X0 : Stand p l e room_1 s m #[(.long q0), (.long q1), (.long q2), (.long q3), (.int p4), (.int p5)] below meth c s₁ [] 0 0 := Stand.of_body Bd
  have e0 : s₁.heap = h0 := by rw [← hh, Bd.state]; rfl
  have N0 := Fr.nil n0
  obtain ⟨P0, hP0⟩ : ∃ P0 : State → Prop, P0 = fun t => Steps p.tables e below (s₁.setTop (entryFrame m #[(.long q0), (.long q1), (.long q2), (.long q3), (.int p4), (.int p5)] maxLocals)) t := ⟨_, rfl⟩
  have K0 : ∀ t, Steps p.tables e below (s₁.setTop (mkF m 0 #[.val (.long q0), .second, .val (.long q1), .second, .val (.long q2), .second, .val (.long q3), .second, .val (.int p4), .val (.int p5), .unset, .unset, .unset, .unset, .unset] [])) t → P0 t := by
    intro t k; rw [hP0]; exact castTop (law_ef m q0 q1 q2 q3 p4 p5) k
  obtain ⟨T1, h1, k1, X1, e1, E1, A1, Ea1, st1⟩ := newPE X0 hx hZ (hw _ (List.mem_of_getElem? (i := 0) rfl)) e0 (g := (mkF m 2 #[.val (.long q0), .second, .val (.long q1), .second, .val (.long q2), .second, .val (.long q3), .second, .val (.int p4), .val (.int p5), .unset, .unset, .unset, .unset, .unset] [(.int (32 : Int32))])) rfl (hb hby at_2) rfl (by decide) (cap := 32) (by decide) (by decide) (by decide) (by decide) (ad := "[B") rfl
  obtain ⟨b2, g1⟩ : ∃ z, z = h0.size := ⟨_, rfl⟩
  have g_b2 : n0 ≤ b2 := Nat.le_trans Z0 (Nat.le_of_eq g1.symm)
  rw [← g1] at A1 st1 Ea1
  have Z1 : n0 ≤ h1.size := Nat.le_trans Z0 E1.1
  obtain ⟨f2, hf2, V1⟩ : ∃ f2 : Nat → Int32, f2 = (fun _ => 0) ∧ IA Z h1 b2 .byte 32 f2 := ⟨_, rfl, IA.new A1 rfl rfl (by decide)⟩
  obtain ⟨T2, h2, X2, e2, ⟨sl2, vv2, W2⟩, V2, st2⟩ := stBA X1 hx hZ e1 V1 (j := (0 : Int32)) (x := ((q0.toInt32).toInt8.toInt32)) (by decide) (g := (mkF m 9 #[.val (.long q0), .second, .val (.long q1), .second, .val (.long q2), .second, .val (.long q3), .second, .val (.int p4), .val (.int p5), .unset, .unset, .unset, .unset, .unset] [(.int ((q0.toInt32).toInt8.toInt32)), (.int (0 : Int32)), (.ref b2), (.ref b2)])) rfl rfl (hb hby at_9)
  have Z2 : n0 ≤ h2.size := Nat.le_trans Z1 (Keep.of_wr W2).1
  have N2 := Fr.snoc X2 N0 g_b2
  have F3 : Exa Z h2 b2 "[B" := Exa.wr W2 Ea1
  obtain ⟨f9, hf9, V2'⟩ : ∃ f9 : Nat → Int32, f9 = (upd f2 ((0 : Int32)).toNatClampNeg (nar .byte ((q0.toInt32).toInt8.toInt32))) ∧ IA Z h2 b2 .byte 32 f9 := ⟨_, rfl, V2⟩
  obtain ⟨T4, h4, X4, e4, ⟨sl4, vv4, W4⟩, V4, st4⟩ := stBA X2 hx hZ e2 V2' (j := (1 : Int32)) (x := ((((q0.toUInt64 >>> ((8 : Int32) &&& 0x3f).toInt64.toUInt64).toInt64).toInt32).toInt8.toInt32)) (by decide) (g := (mkF m 18 #[.val (.long q0), .second, .val (.long q1), .second, .val (.long q2), .second, .val (.long q3), .second, .val (.int p4), .val (.int p5), .unset, .unset, .unset, .unset, .unset] [(.int ((((q0.toUInt64 >>> ((8 : Int32) &&& 0x3f).toInt64.toUInt64).toInt64).toInt32).toInt8.toInt32)), (.int (1 : Int32)), (.ref b2), (.ref b2)])) rfl rfl (hb hby at_18)
  have Z4 : n0 ≤ h4.size := Nat.le_trans Z2 (Keep.of_wr W4).1
  have N4 := Fr.snoc X4 N2 g_b2
  have F5 : Exa Z h4 b2 "[B" := Exa.wr W4 F3
  obtain ⟨f18, hf18, V4'⟩ : ∃ f18 : Nat → Int32, f18 = (upd f9 ((1 : Int32)).toNatClampNeg (nar .byte ((((q0.toUInt64 >>> ((8 : Int32) &&& 0x3f).toInt64.toUInt64).toInt64).toInt32).toInt8.toInt32))) ∧ IA Z h4 b2 .byte 32 f18 := ⟨_, rfl, V4⟩
  obtain ⟨T6, h6, X6, e6, ⟨sl6, vv6, W6⟩, V6, st6⟩ := stBA X4 hx hZ e4 V4' (j := (2 : Int32)) (x := ((((q0.toUInt64 >>> ((16 : Int32) &&& 0x3f).toInt64.toUInt64).toInt64).toInt32).toInt8.toInt32)) (by decide) (g := (mkF m 27 #[.val (.long q0), .second, .val (.long q1), .second, .val (.long q2), .second, .val (.long q3), .second, .val (.int p4), .val (.int p5), .unset, .unset, .unset, .unset, .unset] [(.int ((((q0.toUInt64 >>> ((16 : Int32) &&& 0x3f).toInt64.toUInt64).toInt64).toInt32).toInt8.toInt32)), (.int (2 : Int32)), (.ref b2), (.ref b2)])) rfl rfl (hb hby at_27)
  have Z6 : n0 ≤ h6.size := Nat.le_trans Z4 (Keep.of_wr W6).1
  have N6 := Fr.snoc X6 N4 g_b2
  have F7 : Exa Z h6 b2 "[B" := Exa.wr W6 F5
  obtain ⟨f27, hf27, V6'⟩ : ∃ f27 : Nat → Int32, f27 = (upd f18 ((2 : Int32)).toNatClampNeg (nar .byte ((((q0.toUInt64 >>> ((16 : Int32) &&& 0x3f).toInt64.toUInt64).toInt64).toInt32).toInt8.toInt32))) ∧ IA Z h6 b2 .byte 32 f27 := ⟨_, rfl, V6⟩
  obtain ⟨T8, h8, X8, e8, ⟨sl8, vv8, W8⟩, V8, st8⟩ := stBA X6 hx hZ e6 V6' (j := (3 : Int32)) (x := ((((q0.toUInt64 >>> ((24 : Int32) &&& 0x3f).toInt64.toUInt64).toInt64).toInt32).toInt8.toInt32)) (by decide) (g := (mkF m 36 #[.val (.long q0), .second, .val (.long q1), .second, .val (.long q2), .second, .val (.long q3), .second, .val (.int p4), .val (.int p5), .unset, .unset, .unset, .unset, .unset] [(.int ((((q0.toUInt64 >>> ((24 : Int32) &&& 0x3f).toInt64.toUInt64).toInt64).toInt32).toInt8.toInt32)), (.int (3 : Int32)), (.ref b2), (.ref b2)])) rfl rfl (hb hby at_36)
  have Z8 : n0 ≤ h8.size := Nat.le_trans Z6 (Keep.of_wr W8).1
  have N8 := Fr.snoc X8 N6 g_b2
  have F9 : Exa Z h8 b2 "[B" := Exa.wr W8 F7
  obtain ⟨f36, hf36, V8'⟩ : ∃ f36 : Nat → Int32, f36 = (upd f27 ((3 : Int32)).toNatClampNeg (nar .byte ((((q0.toUInt64 >>> ((24 : Int32) &&& 0x3f).toInt64.toUInt64).toInt64).toInt32).toInt8.toInt32))) ∧ IA Z h8 b2 .byte 32 f36 := ⟨_, rfl, V8⟩
  obtain ⟨T10, h10, X10, e10, ⟨sl10, vv10, W10⟩, V10, st10⟩ := stBA X8 hx hZ e8 V8' (j := (4 : Int32)) (x := ((((q0.toUInt64 >>> ((32 : Int32) &&& 0x3f).toInt64.toUInt64).toInt64).toInt32).toInt8.toInt32)) (by decide) (g := (mkF m 45 #[.val (.long q0), .second, .val (.long q1), .second, .val (.long q2), .second, .val (.long q3), .second, .val (.int p4), .val (.int p5), .unset, .unset, .unset, .unset, .unset] [(.int ((((q0.toUInt64 >>> ((32 : Int32) &&& 0x3f).toInt64.toUInt64).toInt64).toInt32).toInt8.toInt32)), (.int (4 : Int32)), (.ref b2), (.ref b2)])) rfl rfl (hb hby at_45)
  have Z10 : n0 ≤ h10.size := Nat.le_trans Z8 (Keep.of_wr W10).1
  have N10 := Fr.snoc X10 N8 g_b2
  have F11 : Exa Z h10 b2 "[B" := Exa.wr W10 F9
  obtain ⟨f45, hf45, V10'⟩ : ∃ f45 : Nat → Int32, f45 = (upd f36 ((4 : Int32)).toNatClampNeg (nar .byte ((((q0.toUInt64 >>> ((32 : Int32) &&& 0x3f).toInt64.toUInt64).toInt64).toInt32).toInt8.toInt32))) ∧ IA Z h10 b2 .byte 32 f45 := ⟨_, rfl, V10⟩
  obtain ⟨T12, h12, X12, e12, ⟨sl12, vv12, W12⟩, V12, st12⟩ := stBA X10 hx hZ e10 V10' (j := (5 : Int32)) (x := ((((q0.toUInt64 >>> ((40 : Int32) &&& 0x3f).toInt64.toUInt64).toInt64).toInt32).toInt8.toInt32)) (by decide) (g := (mkF m 54 #[.val (.long q0), .second, .val (.long q1), .second, .val (.long q2), .second, .val (.long q3), .second, .val (.int p4), .val (.int p5), .unset, .unset, .unset, .unset, .unset] [(.int ((((q0.toUInt64 >>> ((40 : Int32) &&& 0x3f).toInt64.toUInt64).toInt64).toInt32).toInt8.toInt32)), (.int (5 : Int32)), (.ref b2), (.ref b2)])) rfl rfl (hb hby at_54)
  have Z12 : n0 ≤ h12.size := Nat.le_trans Z10 (Keep.of_wr W12).1
  have N12 := Fr.snoc X12 N10 g_b2
  have F13 : Exa Z h12 b2 "[B" := Exa.wr W12 F11
  obtain ⟨f54, hf54, V12'⟩ : ∃ f54 : Nat → Int32, f54 = (upd f45 ((5 : Int32)).toNatClampNeg (nar .byte ((((q0.toUInt64 >>> ((40 : Int32) &&& 0x3f).toInt64.toUInt64).toInt64).toInt32).toInt8.toInt32))) ∧ IA Z h12 b2 .byte 32 f54 := ⟨_, rfl, V12⟩
  obtain ⟨T14, h14, X14, e14, ⟨sl14, vv14, W14⟩, V14, st14⟩ := stBA X12 hx hZ e12 V12' (j := (6 : Int32)) (x := ((((q0.toUInt64 >>> ((48 : Int32) &&& 0x3f).toInt64.toUInt64).toInt64).toInt32).toInt8.toInt32)) (by decide) (g := (mkF m 64 #[.val (.long q0), .second, .val (.long q1), .second, .val (.long q2), .second, .val (.long q3), .second, .val (.int p4), .val (.int p5), .unset, .unset, .unset, .unset, .unset] [(.int ((((q0.toUInt64 >>> ((48 : Int32) &&& 0x3f).toInt64.toUInt64).toInt64).toInt32).toInt8.toInt32)), (.int (6 : Int32)), (.ref b2), (.ref b2)])) rfl rfl (hb hby at_64)
  have Z14 : n0 ≤ h14.size := Nat.le_trans Z12 (Keep.of_wr W14).1
  have N14 := Fr.snoc X14 N12 g_b2
  have F15 : Exa Z h14 b2 "[B" := Exa.wr W14 F13
  obtain ⟨f64, hf64, V14'⟩ : ∃ f64 : Nat → Int32, f64 = (upd f54 ((6 : Int32)).toNatClampNeg (nar .byte ((((q0.toUInt64 >>> ((48 : Int32) &&& 0x3f).toInt64.toUInt64).toInt64).toInt32).toInt8.toInt32))) ∧ IA Z h14 b2 .byte 32 f64 := ⟨_, rfl, V14⟩
  obtain ⟨T16, h16, X16, e16, ⟨sl16, vv16, W16⟩, V16, st16⟩ := stBA X14 hx hZ e14 V14' (j := (7 : Int32)) (x := ((((q0.toUInt64 >>> ((56 : Int32) &&& 0x3f).toInt64.toUInt64).toInt64).toInt32).toInt8.toInt32)) (by decide) (g := (mkF m 74 #[.val (.long q0), .second, .val (.long q1), .second, .val (.long q2), .second, .val (.long q3), .second, .val (.int p4), .val (.int p5), .unset, .unset, .unset, .unset, .unset] [(.int ((((q0.toUInt64 >>> ((56 : Int32) &&& 0x3f).toInt64.toUInt64).toInt64).toInt32).toInt8.toInt32)), (.int (7 : Int32)), (.ref b2), (.ref b2)])) rfl rfl (hb hby at_74)
  have Z16 : n0 ≤ h16.size := Nat.le_trans Z14 (Keep.of_wr W16).1
  have N16 := Fr.snoc X16 N14 g_b2
  have F17 : Exa Z h16 b2 "[B" := Exa.wr W16 F15
  obtain ⟨f74, hf74, V16'⟩ : ∃ f74 : Nat → Int32, f74 = (upd f64 ((7 : Int32)).toNatClampNeg (nar .byte ((((q0.toUInt64 >>> ((56 : Int32) &&& 0x3f).toInt64.toUInt64).toInt64).toInt32).toInt8.toInt32))) ∧ IA Z h16 b2 .byte 32 f74 := ⟨_, rfl, V16⟩
  obtain ⟨T18, h18, X18, e18, ⟨sl18, vv18, W18⟩, V18, st18⟩ := stBA X16 hx hZ e16 V16' (j := (8 : Int32)) (x := ((q1.toInt32).toInt8.toInt32)) (by decide) (g := (mkF m 81 #[.val (.long q0), .second, .val (.long q1), .second, .val (.long q2), .second, .val (.long q3), .second, .val (.int p4), .val (.int p5), .unset, .unset, .unset, .unset, .unset] [(.int ((q1.toInt32).toInt8.toInt32)), (.int (8 : Int32)), (.ref b2), (.ref b2)])) rfl rfl (hb hby at_81)
  have Z18 : n0 ≤ h18.size := Nat.le_trans Z16 (Keep.of_wr W18).1
  have N18 := Fr.snoc X18 N16 g_b2
  have F19 : Exa Z h18 b2 "[B" := Exa.wr W18 F17
  obtain ⟨f81, hf81, V18'⟩ : ∃ f81 : Nat → Int32, f81 = (upd f74 ((8 : Int32)).toNatClampNeg (nar .byte ((q1.toInt32).toInt8.toInt32))) ∧ IA Z h18 b2 .byte 32 f81 := ⟨_, rfl, V18⟩
  obtain ⟨T20, h20, X20, e20, ⟨sl20, vv20, W20⟩, V20, st20⟩ := stBA X18 hx hZ e18 V18' (j := (9 : Int32)) (x := ((((q1.toUInt64 >>> ((8 : Int32) &&& 0x3f).toInt64.toUInt64).toInt64).toInt32).toInt8.toInt32)) (by decide) (g := (mkF m 91 #[.val (.long q0), .second, .val (.long q1), .second, .val (.long q2), .second, .val (.long q3), .second, .val (.int p4), .val (.int p5), .unset, .unset, .unset, .unset, .unset] [(.int ((((q1.toUInt64 >>> ((8 : Int32) &&& 0x3f).toInt64.toUInt64).toInt64).toInt32).toInt8.toInt32)), (.int (9 : Int32)), (.ref b2), (.ref b2)])) rfl rfl (hb hby at_91)
  have Z20 : n0 ≤ h20.size := Nat.le_trans Z18 (Keep.of_wr W20).1
  have N20 := Fr.snoc X20 N18 g_b2
  have F21 : Exa Z h20 b2 "[B" := Exa.wr W20 F19
  obtain ⟨f91, hf91, V20'⟩ : ∃ f91 : Nat → Int32, f91 = (upd f81 ((9 : Int32)).toNatClampNeg (nar .byte ((((q1.toUInt64 >>> ((8 : Int32) &&& 0x3f).toInt64.toUInt64).toInt64).toInt32).toInt8.toInt32))) ∧ IA Z h20 b2 .byte 32 f91 := ⟨_, rfl, V20⟩
  obtain ⟨T22, h22, X22, e22, ⟨sl22, vv22, W22⟩, V22, st22⟩ := stBA X20 hx hZ e20 V20' (j := (10 : Int32)) (x := ((((q1.toUInt64 >>> ((16 : Int32) &&& 0x3f).toInt64.toUInt64).toInt64).toInt32).toInt8.toInt32)) (by decide) (g := (mkF m 101 #[.val (.long q0), .second, .val (.long q1), .second, .val (.long q2), .second, .val (.long q3), .second, .val (.int p4), .val (.int p5), .unset, .unset, .unset, .unset, .unset] [(.int ((((q1.toUInt64 >>> ((16 : Int32) &&& 0x3f).toInt64.toUInt64).toInt64).toInt32).toInt8.toInt32)), (.int (10 : Int32)), (.ref b2), (.ref b2)])) rfl rfl (hb hby at_101)
  have Z22 : n0 ≤ h22.size := Nat.le_trans Z20 (Keep.of_wr W22).1
  have N22 := Fr.snoc X22 N20 g_b2
  have F23 : Exa Z h22 b2 "[B" := Exa.wr W22 F21
  obtain ⟨f101, hf101, V22'⟩ : ∃ f101 : Nat → Int32, f101 = (upd f91 ((10 : Int32)).toNatClampNeg (nar .byte ((((q1.toUInt64 >>> ((16 : Int32) &&& 0x3f).toInt64.toUInt64).toInt64).toInt32).toInt8.toInt32))) ∧ IA Z h22 b2 .byte 32 f101 := ⟨_, rfl, V22⟩
  obtain ⟨T24, h24, X24, e24, ⟨sl24, vv24, W24⟩, V24, st24⟩ := stBA X22 hx hZ e22 V22' (j := (11 : Int32)) (x := ((((q1.toUInt64 >>> ((24 : Int32) &&& 0x3f).toInt64.toUInt64).toInt64).toInt32).toInt8.toInt32)) (by decide) (g := (mkF m 111 #[.val (.long q0), .second, .val (.long q1), .second, .val (.long q2), .second, .val (.long q3), .second, .val (.int p4), .val (.int p5), .unset, .unset, .unset, .unset, .unset] [(.int ((((q1.toUInt64 >>> ((24 : Int32) &&& 0x3f).toInt64.toUInt64).toInt64).toInt32).toInt8.toInt32)), (.int (11 : Int32)), (.ref b2), (.ref b2)])) rfl rfl (hb hby at_111)
  have Z24 : n0 ≤ h24.size := Nat.le_trans Z22 (Keep.of_wr W24).1
  have N24 := Fr.snoc X24 N22 g_b2
  have F25 : Exa Z h24 b2 "[B" := Exa.wr W24 F23
  obtain ⟨f111, hf111, V24'⟩ : ∃ f111 : Nat → Int32, f111 = (upd f101 ((11 : Int32)).toNatClampNeg (nar .byte ((((q1.toUInt64 >>> ((24 : Int32) &&& 0x3f).toInt64.toUInt64).toInt64).toInt32).toInt8.toInt32))) ∧ IA Z h24 b2 .byte 32 f111 := ⟨_, rfl, V24⟩
  obtain ⟨T26, h26, X26, e26, ⟨sl26, vv26, W26⟩, V26, st26⟩ := stBA X24 hx hZ e24 V24' (j := (12 : Int32)) (x := ((((q1.toUInt64 >>> ((32 : Int32) &&& 0x3f).toInt64.toUInt64).toInt64).toInt32).toInt8.toInt32)) (by decide) (g := (mkF m 121 #[.val (.long q0), .second, .val (.long q1), .second, .val (.long q2), .second, .val (.long q3), .second, .val (.int p4), .val (.int p5), .unset, .unset, .unset, .unset, .unset] [(.int ((((q1.toUInt64 >>> ((32 : Int32) &&& 0x3f).toInt64.toUInt64).toInt64).toInt32).toInt8.toInt32)), (.int (12 : Int32)), (.ref b2), (.ref b2)])) rfl rfl (hb hby at_121)
  have Z26 : n0 ≤ h26.size := Nat.le_trans Z24 (Keep.of_wr W26).1
  have N26 := Fr.snoc X26 N24 g_b2
  have F27 : Exa Z h26 b2 "[B" := Exa.wr W26 F25
  obtain ⟨f121, hf121, V26'⟩ : ∃ f121 : Nat → Int32, f121 = (upd f111 ((12 : Int32)).toNatClampNeg (nar .byte ((((q1.toUInt64 >>> ((32 : Int32) &&& 0x3f).toInt64.toUInt64).toInt64).toInt32).toInt8.toInt32))) ∧ IA Z h26 b2 .byte 32 f121 := ⟨_, rfl, V26⟩
  obtain ⟨T28, h28, X28, e28, ⟨sl28, vv28, W28⟩, V28, st28⟩ := stBA X26 hx hZ e26 V26' (j := (13 : Int32)) (x := ((((q1.toUInt64 >>> ((40 : Int32) &&& 0x3f).toInt64.toUInt64).toInt64).toInt32).toInt8.toInt32)) (by decide) (g := (mkF m 131 #[.val (.long q0), .second, .val (.long q1), .second, .val (.long q2), .second, .val (.long q3), .second, .val (.int p4), .val (.int p5), .unset, .unset, .unset, .unset, .unset] [(.int ((((q1.toUInt64 >>> ((40 : Int32) &&& 0x3f).toInt64.toUInt64).toInt64).toInt32).toInt8.toInt32)), (.int (13 : Int32)), (.ref b2), (.ref b2)])) rfl rfl (hb hby at_131)
  have Z28 : n0 ≤ h28.size := Nat.le_trans Z26 (Keep.of_wr W28).1
  have N28 := Fr.snoc X28 N26 g_b2
  have F29 : Exa Z h28 b2 "[B" := Exa.wr W28 F27
  obtain ⟨f131, hf131, V28'⟩ : ∃ f131 : Nat → Int32, f131 = (upd f121 ((13 : Int32)).toNatClampNeg (nar .byte ((((q1.toUInt64 >>> ((40 : Int32) &&& 0x3f).toInt64.toUInt64).toInt64).toInt32).toInt8.toInt32))) ∧ IA Z h28 b2 .byte 32 f131 := ⟨_, rfl, V28⟩
  obtain ⟨T30, h30, X30, e30, ⟨sl30, vv30, W30⟩, V30, st30⟩ := stBA X28 hx hZ e28 V28' (j := (14 : Int32)) (x := ((((q1.toUInt64 >>> ((48 : Int32) &&& 0x3f).toInt64.toUInt64).toInt64).toInt32).toInt8.toInt32)) (by decide) (g := (mkF m 141 #[.val (.long q0), .second, .val (.long q1), .second, .val (.long q2), .second, .val (.long q3), .second, .val (.int p4), .val (.int p5), .unset, .unset, .unset, .unset, .unset] [(.int ((((q1.toUInt64 >>> ((48 : Int32) &&& 0x3f).toInt64.toUInt64).toInt64).toInt32).toInt8.toInt32)), (.int (14 : Int32)), (.ref b2), (.ref b2)])) rfl rfl (hb hby at_141)
  have Z30 : n0 ≤ h30.size := Nat.le_trans Z28 (Keep.of_wr W30).1
  have N30 := Fr.snoc X30 N28 g_b2
  have F31 : Exa Z h30 b2 "[B" := Exa.wr W30 F29
  obtain ⟨f141, hf141, V30'⟩ : ∃ f141 : Nat → Int32, f141 = (upd f131 ((14 : Int32)).toNatClampNeg (nar .byte ((((q1.toUInt64 >>> ((48 : Int32) &&& 0x3f).toInt64.toUInt64).toInt64).toInt32).toInt8.toInt32))) ∧ IA Z h30 b2 .byte 32 f141 := ⟨_, rfl, V30⟩
  obtain ⟨T32, h32, X32, e32, ⟨sl32, vv32, W32⟩, V32, st32⟩ := stBA X30 hx hZ e30 V30' (j := (15 : Int32)) (x := ((((q1.toUInt64 >>> ((56 : Int32) &&& 0x3f).toInt64.toUInt64).toInt64).toInt32).toInt8.toInt32)) (by decide) (g := (mkF m 151 #[.val (.long q0), .second, .val (.long q1), .second, .val (.long q2), .second, .val (.long q3), .second, .val (.int p4), .val (.int p5), .unset, .unset, .unset, .unset, .unset] [(.int ((((q1.toUInt64 >>> ((56 : Int32) &&& 0x3f).toInt64.toUInt64).toInt64).toInt32).toInt8.toInt32)), (.int (15 : Int32)), (.ref b2), (.ref b2)])) rfl rfl (hb hby at_151)
  have Z32 : n0 ≤ h32.size := Nat.le_trans Z30 (Keep.of_wr W32).1
  have N32 := Fr.snoc X32 N30 g_b2
  have F33 : Exa Z h32 b2 "[B" := Exa.wr W32 F31
  obtain ⟨f151, hf151, V32'⟩ : ∃ f151 : Nat → Int32, f151 = (upd f141 ((15 : Int32)).toNatClampNeg (nar .byte ((((q1.toUInt64 >>> ((56 : Int32) &&& 0x3f).toInt64.toUInt64).toInt64).toInt32).toInt8.toInt32))) ∧ IA Z h32 b2 .byte 32 f151 := ⟨_, rfl, V32⟩
  obtain ⟨T34, h34, X34, e34, ⟨sl34, vv34, W34⟩, V34, st34⟩ := stBA X32 hx hZ e32 V32' (j := (16 : Int32)) (x := ((q2.toInt32).toInt8.toInt32)) (by decide) (g := (mkF m 159 #[.val (.long q0), .second, .val (.long q1), .second, .val (.long q2), .second, .val (.long q3), .second, .val (.int p4), .val (.int p5), .unset, .unset, .unset, .unset, .unset] [(.int ((q2.toInt32).toInt8.toInt32)), (.int (16 : Int32)), (.ref b2), (.ref b2)])) rfl rfl (hb hby at_159)
  have Z34 : n0 ≤ h34.size := Nat.le_trans Z32 (Keep.of_wr W34).1
  have N34 := Fr.snoc X34 N32 g_b2
  have F35 : Exa Z h34 b2 "[B" := Exa.wr W34 F33
  obtain ⟨f159, hf159, V34'⟩ : ∃ f159 : Nat → Int32, f159 = (upd f151 ((16 : Int32)).toNatClampNeg (nar .byte ((q2.toInt32).toInt8.toInt32))) ∧ IA Z h34 b2 .byte 32 f159 := ⟨_, rfl, V34⟩
  obtain ⟨T36, h36, X36, e36, ⟨sl36, vv36, W36⟩, V36, st36⟩ := stBA X34 hx hZ e34 V34' (j := (17 : Int32)) (x := ((((q2.toUInt64 >>> ((8 : Int32) &&& 0x3f).toInt64.toUInt64).toInt64).toInt32).toInt8.toInt32)) (by decide) (g := (mkF m 170 #[.val (.long q0), .second, .val (.long q1), .second, .val (.long q2), .second, .val (.long q3), .second, .val (.int p4), .val (.int p5), .unset, .unset, .unset, .unset, .unset] [(.int ((((q2.toUInt64 >>> ((8 : Int32) &&& 0x3f).toInt64.toUInt64).toInt64).toInt32).toInt8.toInt32)), (.int (17 : Int32)), (.ref b2), (.ref b2)])) rfl rfl (hb hby at_170)
  have Z36 : n0 ≤ h36.size := Nat.le_trans Z34 (Keep.of_wr W36).1
  have N36 := Fr.snoc X36 N34 g_b2
  have F37 : Exa Z h36 b2 "[B" := Exa.wr W36 F35
  obtain ⟨f170, hf170, V36'⟩ : ∃ f170 : Nat → Int32, f170 = (upd f159 ((17 : Int32)).toNatClampNeg (nar .byte ((((q2.toUInt64 >>> ((8 : Int32) &&& 0x3f).toInt64.toUInt64).toInt64).toInt32).toInt8.toInt32))) ∧ IA Z h36 b2 .byte 32 f170 := ⟨_, rfl, V36⟩
  obtain ⟨T38, h38, X38, e38, ⟨sl38, vv38, W38⟩, V38, st38⟩ := stBA X36 hx hZ e36 V36' (j := (18 : Int32)) (x := ((((q2.toUInt64 >>> ((16 : Int32) &&& 0x3f).toInt64.toUInt64).toInt64).toInt32).toInt8.toInt32)) (by decide) (g := (mkF m 181 #[.val (.long q0), .second, .val (.long q1), .second, .val (.long q2), .second, .val (.long q3), .second, .val (.int p4), .val (.int p5), .unset, .unset, .unset, .unset, .unset] [(.int ((((q2.toUInt64 >>> ((16 : Int32) &&& 0x3f).toInt64.toUInt64).toInt64).toInt32).toInt8.toInt32)), (.int (18 : Int32)), (.ref b2), (.ref b2)])) rfl rfl (hb hby at_181)
  have Z38 : n0 ≤ h38.size := Nat.le_trans Z36 (Keep.of_wr W38).1
  have N38 := Fr.snoc X38 N36 g_b2
  have F39 : Exa Z h38 b2 "[B" := Exa.wr W38 F37
  obtain ⟨f181, hf181, V38'⟩ : ∃ f181 : Nat → Int32, f181 = (upd f170 ((18 : Int32)).toNatClampNeg (nar .byte ((((q2.toUInt64 >>> ((16 : Int32) &&& 0x3f).toInt64.toUInt64).toInt64).toInt32).toInt8.toInt32))) ∧ IA Z h38 b2 .byte 32 f181 := ⟨_, rfl, V38⟩
  obtain ⟨T40, h40, X40, e40, ⟨sl40, vv40, W40⟩, V40, st40⟩ := stBA X38 hx hZ e38 V38' (j := (19 : Int32)) (x := ((((q2.toUInt64 >>> ((24 : Int32) &&& 0x3f).toInt64.toUInt64).toInt64).toInt32).toInt8.toInt32)) (by decide) (g := (mkF m 192 #[.val (.long q0), .second, .val (.long q1), .second, .val (.long q2), .second, .val (.long q3), .second, .val (.int p4), .val (.int p5), .unset, .unset, .unset, .unset, .unset] [(.int ((((q2.toUInt64 >>> ((24 : Int32) &&& 0x3f).toInt64.toUInt64).toInt64).toInt32).toInt8.toInt32)), (.int (19 : Int32)), (.ref b2), (.ref b2)])) rfl rfl (hb hby at_192)
  have Z40 : n0 ≤ h40.size := Nat.le_trans Z38 (Keep.of_wr W40).1
  have N40 := Fr.snoc X40 N38 g_b2
  have F41 : Exa Z h40 b2 "[B" := Exa.wr W40 F39
  obtain ⟨f192, hf192, V40'⟩ : ∃ f192 : Nat → Int32, f192 = (upd f181 ((19 : Int32)).toNatClampNeg (nar .byte ((((q2.toUInt64 >>> ((24 : Int32) &&& 0x3f).toInt64.toUInt64).toInt64).toInt32).toInt8.toInt32))) ∧ IA Z h40 b2 .byte 32 f192 := ⟨_, rfl, V40⟩
  obtain ⟨T42, h42, X42, e42, ⟨sl42, vv42, W42⟩, V42, st42⟩ := stBA X40 hx hZ e40 V40' (j := (20 : Int32)) (x := ((((q2.toUInt64 >>> ((32 : Int32) &&& 0x3f).toInt64.toUInt64).toInt64).toInt32).toInt8.toInt32)) (by decide) (g := (mkF m 203 #[.val (.long q0), .second, .val (.long q1), .second, .val (.long q2), .second, .val (.long q3), .second, .val (.int p4), .val (.int p5), .unset, .unset, .unset, .unset, .unset] [(.int ((((q2.toUInt64 >>> ((32 : Int32) &&& 0x3f).toInt64.toUInt64).toInt64).toInt32).toInt8.toInt32)), (.int (20 : Int32)), (.ref b2), (.ref b2)])) rfl rfl (hb hby at_203)
  have Z42 : n0 ≤ h42.size := Nat.le_trans Z40 (Keep.of_wr W42).1
  have N42 := Fr.snoc X42 N40 g_b2
  have F43 : Exa Z h42 b2 "[B" := Exa.wr W42 F41
  obtain ⟨f203, hf203, V42'⟩ : ∃ f203 : Nat → Int32, f203 = (upd f192 ((20 : Int32)).toNatClampNeg (nar .byte ((((q2.toUInt64 >>> ((32 : Int32) &&& 0x3f).toInt64.toUInt64).toInt64).toInt32).toInt8.toInt32))) ∧ IA Z h42 b2 .byte 32 f203 := ⟨_, rfl, V42⟩
  obtain ⟨T44, h44, X44, e44, ⟨sl44, vv44, W44⟩, V44, st44⟩ := stBA X42 hx hZ e42 V42' (j := (21 : Int32)) (x := ((((q2.toUInt64 >>> ((40 : Int32) &&& 0x3f).toInt64.toUInt64).toInt64).toInt32).toInt8.toInt32)) (by decide) (g := (mkF m 214 #[.val (.long q0), .second, .val (.long q1), .second, .val (.long q2), .second, .val (.long q3), .second, .val (.int p4), .val (.int p5), .unset, .unset, .unset, .unset, .unset] [(.int ((((q2.toUInt64 >>> ((40 : Int32) &&& 0x3f).toInt64.toUInt64).toInt64).toInt32).toInt8.toInt32)), (.int (21 : Int32)), (.ref b2), (.ref b2)])) rfl rfl (hb hby at_214)
  have Z44 : n0 ≤ h44.size := Nat.le_trans Z42 (Keep.of_wr W44).1
  have N44 := Fr.snoc X44 N42 g_b2
  have F45 : Exa Z h44 b2 "[B" := Exa.wr W44 F43
  obtain ⟨f214, hf214, V44'⟩ : ∃ f214 : Nat → Int32, f214 = (upd f203 ((21 : Int32)).toNatClampNeg (nar .byte ((((q2.toUInt64 >>> ((40 : Int32) &&& 0x3f).toInt64.toUInt64).toInt64).toInt32).toInt8.toInt32))) ∧ IA Z h44 b2 .byte 32 f214 := ⟨_, rfl, V44⟩
  obtain ⟨T46, h46, X46, e46, ⟨sl46, vv46, W46⟩, V46, st46⟩ := stBA X44 hx hZ e44 V44' (j := (22 : Int32)) (x := ((((q2.toUInt64 >>> ((48 : Int32) &&& 0x3f).toInt64.toUInt64).toInt64).toInt32).toInt8.toInt32)) (by decide) (g := (mkF m 225 #[.val (.long q0), .second, .val (.long q1), .second, .val (.long q2), .second, .val (.long q3), .second, .val (.int p4), .val (.int p5), .unset, .unset, .unset, .unset, .unset] [(.int ((((q2.toUInt64 >>> ((48 : Int32) &&& 0x3f).toInt64.toUInt64).toInt64).toInt32).toInt8.toInt32)), (.int (22 : Int32)), (.ref b2), (.ref b2)])) rfl rfl (hb hby at_225)
  have Z46 : n0 ≤ h46.size := Nat.le_trans Z44 (Keep.of_wr W46).1
  have N46 := Fr.snoc X46 N44 g_b2
  have F47 : Exa Z h46 b2 "[B" := Exa.wr W46 F45
  obtain ⟨f225, hf225, V46'⟩ : ∃ f225 : Nat → Int32, f225 = (upd f214 ((22 : Int32)).toNatClampNeg (nar .byte ((((q2.toUInt64 >>> ((48 : Int32) &&& 0x3f).toInt64.toUInt64).toInt64).toInt32).toInt8.toInt32))) ∧ IA Z h46 b2 .byte 32 f225 := ⟨_, rfl, V46⟩
  obtain ⟨T48, h48, X48, e48, ⟨sl48, vv48, W48⟩, V48, st48⟩ := stBA X46 hx hZ e46 V46' (j := (23 : Int32)) (x := ((((q2.toUInt64 >>> ((56 : Int32) &&& 0x3f).toInt64.toUInt64).toInt64).toInt32).toInt8.toInt32)) (by decide) (g := (mkF m 236 #[.val (.long q0), .second, .val (.long q1), .second, .val (.long q2), .second, .val (.long q3), .second, .val (.int p4), .val (.int p5), .unset, .unset, .unset, .unset, .unset] [(.int ((((q2.toUInt64 >>> ((56 : Int32) &&& 0x3f).toInt64.toUInt64).toInt64).toInt32).toInt8.toInt32)), (.int (23 : Int32)), (.ref b2), (.ref b2)])) rfl rfl (hb hby at_236)
  have Z48 : n0 ≤ h48.size := Nat.le_trans Z46 (Keep.of_wr W48).1
  have N48 := Fr.snoc X48 N46 g_b2
  have F49 : Exa Z h48 b2 "[B" := Exa.wr W48 F47
  obtain ⟨f236, hf236, V48'⟩ : ∃ f236 : Nat → Int32, f236 = (upd f225 ((23 : Int32)).toNatClampNeg (nar .byte ((((q2.toUInt64 >>> ((56 : Int32) &&& 0x3f).toInt64.toUInt64).toInt64).toInt32).toInt8.toInt32))) ∧ IA Z h48 b2 .byte 32 f236 := ⟨_, rfl, V48⟩
  obtain ⟨T50, h50, X50, e50, ⟨sl50, vv50, W50⟩, V50, st50⟩ := stBA X48 hx hZ e48 V48' (j := (24 : Int32)) (x := ((q3.toInt32).toInt8.toInt32)) (by decide) (g := (mkF m 244 #[.val (.long q0), .second, .val (.long q1), .second, .val (.long q2), .second, .val (.long q3), .second, .val (.int p4), .val (.int p5), .unset, .unset, .unset, .unset, .unset] [(.int ((q3.toInt32).toInt8.toInt32)), (.int (24 : Int32)), (.ref b2), (.ref b2)])) rfl rfl (hb hby at_244)
  have Z50 : n0 ≤ h50.size := Nat.le_trans Z48 (Keep.of_wr W50).1
  have N50 := Fr.snoc X50 N48 g_b2
  have F51 : Exa Z h50 b2 "[B" := Exa.wr W50 F49
  obtain ⟨f244, hf244, V50'⟩ : ∃ f244 : Nat → Int32, f244 = (upd f236 ((24 : Int32)).toNatClampNeg (nar .byte ((q3.toInt32).toInt8.toInt32))) ∧ IA Z h50 b2 .byte 32 f244 := ⟨_, rfl, V50⟩
  obtain ⟨T52, h52, X52, e52, ⟨sl52, vv52, W52⟩, V52, st52⟩ := stBA X50 hx hZ e50 V50' (j := (25 : Int32)) (x := ((((q3.toUInt64 >>> ((8 : Int32) &&& 0x3f).toInt64.toUInt64).toInt64).toInt32).toInt8.toInt32)) (by decide) (g := (mkF m 255 #[.val (.long q0), .second, .val (.long q1), .second, .val (.long q2), .second, .val (.long q3), .second, .val (.int p4), .val (.int p5), .unset, .unset, .unset, .unset, .unset] [(.int ((((q3.toUInt64 >>> ((8 : Int32) &&& 0x3f).toInt64.toUInt64).toInt64).toInt32).toInt8.toInt32)), (.int (25 : Int32)), (.ref b2), (.ref b2)])) rfl rfl (hb hby at_255)
  have Z52 : n0 ≤ h52.size := Nat.le_trans Z50 (Keep.of_wr W52).1
  have N52 := Fr.snoc X52 N50 g_b2
  have F53 : Exa Z h52 b2 "[B" := Exa.wr W52 F51
  obtain ⟨f255, hf255, V52'⟩ : ∃ f255 : Nat → Int32, f255 = (upd f244 ((25 : Int32)).toNatClampNeg (nar .byte ((((q3.toUInt64 >>> ((8 : Int32) &&& 0x3f).toInt64.toUInt64).toInt64).toInt32).toInt8.toInt32))) ∧ IA Z h52 b2 .byte 32 f255 := ⟨_, rfl, V52⟩
  obtain ⟨T54, h54, X54, e54, ⟨sl54, vv54, W54⟩, V54, st54⟩ := stBA X52 hx hZ e52 V52' (j := (26 : Int32)) (x := ((((q3.toUInt64 >>> ((16 : Int32) &&& 0x3f).toInt64.toUInt64).toInt64).toInt32).toInt8.toInt32)) (by decide) (g := (mkF m 266 #[.val (.long q0), .second, .val (.long q1), .second, .val (.long q2), .second, .val (.long q3), .second, .val (.int p4), .val (.int p5), .unset, .unset, .unset, .unset, .unset] [(.int ((((q3.toUInt64 >>> ((16 : Int32) &&& 0x3f).toInt64.toUInt64).toInt64).toInt32).toInt8.toInt32)), (.int (26 : Int32)), (.ref b2), (.ref b2)])) rfl rfl (hb hby at_266)
  have Z54 : n0 ≤ h54.size := Nat.le_trans Z52 (Keep.of_wr W54).1
  have N54 := Fr.snoc X54 N52 g_b2
  have F55 : Exa Z h54 b2 "[B" := Exa.wr W54 F53
  obtain ⟨f266, hf266, V54'⟩ : ∃ f266 : Nat → Int32, f266 = (upd f255 ((26 : Int32)).toNatClampNeg (nar .byte ((((q3.toUInt64 >>> ((16 : Int32) &&& 0x3f).toInt64.toUInt64).toInt64).toInt32).toInt8.toInt32))) ∧ IA Z h54 b2 .byte 32 f266 := ⟨_, rfl, V54⟩
  obtain ⟨T56, h56, X56, e56, ⟨sl56, vv56, W56⟩, V56, st56⟩ := stBA X54 hx hZ e54 V54' (j := (27 : Int32)) (x := ((((q3.toUInt64 >>> ((24 : Int32) &&& 0x3f).toInt64.toUInt64).toInt64).toInt32).toInt8.toInt32)) (by decide) (g := (mkF m 277 #[.val (.long q0), .second, .val (.long q1), .second, .val (.long q2), .second, .val (.long q3), .second, .val (.int p4), .val (.int p5), .unset, .unset, .unset, .unset, .unset] [(.int ((((q3.toUInt64 >>> ((24 : Int32) &&& 0x3f).toInt64.toUInt64).toInt64).toInt32).toInt8.toInt32)), (.int (27 : Int32)), (.ref b2), (.ref b2)])) rfl rfl (hb hby at_277)
  have Z56 : n0 ≤ h56.size := Nat.le_trans Z54 (Keep.of_wr W56).1
  have N56 := Fr.snoc X56 N54 g_b2
  have F57 : Exa Z h56 b2 "[B" := Exa.wr W56 F55
  obtain ⟨f277, hf277, V56'⟩ : ∃ f277 : Nat → Int32, f277 = (upd f266 ((27 : Int32)).toNatClampNeg (nar .byte ((((q3.toUInt64 >>> ((24 : Int32) &&& 0x3f).toInt64.toUInt64).toInt64).toInt32).toInt8.toInt32))) ∧ IA Z h56 b2 .byte 32 f277 := ⟨_, rfl, V56⟩
  obtain ⟨T58, h58, X58, e58, ⟨sl58, vv58, W58⟩, V58, st58⟩ := stBA X56 hx hZ e56 V56' (j := (28 : Int32)) (x := ((((q3.toUInt64 >>> ((32 : Int32) &&& 0x3f).toInt64.toUInt64).toInt64).toInt32).toInt8.toInt32)) (by decide) (g := (mkF m 288 #[.val (.long q0), .second, .val (.long q1), .second, .val (.long q2), .second, .val (.long q3), .second, .val (.int p4), .val (.int p5), .unset, .unset, .unset, .unset, .unset] [(.int ((((q3.toUInt64 >>> ((32 : Int32) &&& 0x3f).toInt64.toUInt64).toInt64).toInt32).toInt8.toInt32)), (.int (28 : Int32)), (.ref b2), (.ref b2)])) rfl rfl (hb hby at_288)
  have Z58 : n0 ≤ h58.size := Nat.le_trans Z56 (Keep.of_wr W58).1
  have N58 := Fr.snoc X58 N56 g_b2
  have F59 : Exa Z h58 b2 "[B" := Exa.wr W58 F57
  obtain ⟨f288, hf288, V58'⟩ : ∃ f288 : Nat → Int32, f288 = (upd f277 ((28 : Int32)).toNatClampNeg (nar .byte ((((q3.toUInt64 >>> ((32 : Int32) &&& 0x3f).toInt64.toUInt64).toInt64).toInt32).toInt8.toInt32))) ∧ IA Z h58 b2 .byte 32 f288 := ⟨_, rfl, V58⟩
  obtain ⟨T60, h60, X60, e60, ⟨sl60, vv60, W60⟩, V60, st60⟩ := stBA X58 hx hZ e58 V58' (j := (29 : Int32)) (x := ((((q3.toUInt64 >>> ((40 : Int32) &&& 0x3f).toInt64.toUInt64).toInt64).toInt32).toInt8.toInt32)) (by decide) (g := (mkF m 299 #[.val (.long q0), .second, .val (.long q1), .second, .val (.long q2), .second, .val (.long q3), .second, .val (.int p4), .val (.int p5), .unset, .unset, .unset, .unset, .unset] [(.int ((((q3.toUInt64 >>> ((40 : Int32) &&& 0x3f).toInt64.toUInt64).toInt64).toInt32).toInt8.toInt32)), (.int (29 : Int32)), (.ref b2), (.ref b2)])) rfl rfl (hb hby at_299)
  have Z60 : n0 ≤ h60.size := Nat.le_trans Z58 (Keep.of_wr W60).1
  have N60 := Fr.snoc X60 N58 g_b2
  have F61 : Exa Z h60 b2 "[B" := Exa.wr W60 F59
  obtain ⟨f299, hf299, V60'⟩ : ∃ f299 : Nat → Int32, f299 = (upd f288 ((29 : Int32)).toNatClampNeg (nar .byte ((((q3.toUInt64 >>> ((40 : Int32) &&& 0x3f).toInt64.toUInt64).toInt64).toInt32).toInt8.toInt32))) ∧ IA Z h60 b2 .byte 32 f299 := ⟨_, rfl, V60⟩
  obtain ⟨T62, h62, X62, e62, ⟨sl62, vv62, W62⟩, V62, st62⟩ := stBA X60 hx hZ e60 V60' (j := (30 : Int32)) (x := ((((q3.toUInt64 >>> ((48 : Int32) &&& 0x3f).toInt64.toUInt64).toInt64).toInt32).toInt8.toInt32)) (by decide) (g := (mkF m 310 #[.val (.long q0), .second, .val (.long q1), .second, .val (.long q2), .second, .val (.long q3), .second, .val (.int p4), .val (.int p5), .unset, .unset, .unset, .unset, .unset] [(.int ((((q3.toUInt64 >>> ((48 : Int32) &&& 0x3f).toInt64.toUInt64).toInt64).toInt32).toInt8.toInt32)), (.int (30 : Int32)), (.ref b2), (.ref b2)])) rfl rfl (hb hby at_310)
  have Z62 : n0 ≤ h62.size := Nat.le_trans Z60 (Keep.of_wr W62).1
  have N62 := Fr.snoc X62 N60 g_b2
  have F63 : Exa Z h62 b2 "[B" := Exa.wr W62 F61
  obtain ⟨f310, hf310, V62'⟩ : ∃ f310 : Nat → Int32, f310 = (upd f299 ((30 : Int32)).toNatClampNeg (nar .byte ((((q3.toUInt64 >>> ((48 : Int32) &&& 0x3f).toInt64.toUInt64).toInt64).toInt32).toInt8.toInt32))) ∧ IA Z h62 b2 .byte 32 f310 := ⟨_, rfl, V62⟩
  obtain ⟨T64, h64, X64, e64, ⟨sl64, vv64, W64⟩, V64, st64⟩ := stBA X62 hx hZ e62 V62' (j := (31 : Int32)) (x := ((((q3.toUInt64 >>> ((56 : Int32) &&& 0x3f).toInt64.toUInt64).toInt64).toInt32).toInt8.toInt32)) (by decide) (g := (mkF m 321 #[.val (.long q0), .second, .val (.long q1), .second, .val (.long q2), .second, .val (.long q3), .second, .val (.int p4), .val (.int p5), .unset, .unset, .unset, .unset, .unset] [(.int ((((q3.toUInt64 >>> ((56 : Int32) &&& 0x3f).toInt64.toUInt64).toInt64).toInt32).toInt8.toInt32)), (.int (31 : Int32)), (.ref b2), (.ref b2)])) rfl rfl (hb hby at_321)
  have Z64 : n0 ≤ h64.size := Nat.le_trans Z62 (Keep.of_wr W64).1
  have N64 := Fr.snoc X64 N62 g_b2
  have F65 : Exa Z h64 b2 "[B" := Exa.wr W64 F63
  obtain ⟨f321, hf321, V64'⟩ : ∃ f321 : Nat → Int32, f321 = (upd f310 ((31 : Int32)).toNatClampNeg (nar .byte ((((q3.toUInt64 >>> ((56 : Int32) &&& 0x3f).toInt64.toUInt64).toInt64).toInt32).toInt8.toInt32))) ∧ IA Z h64 b2 .byte 32 f321 := ⟨_, rfl, V64⟩
  have K66 : ∀ t, Steps p.tables e below (T64.setTop (mkF m 336 #[.val (.long q0), .second, .val (.long q1), .second, .val (.long q2), .second, .val (.long q3), .second, .val (.int p4), .val (.int p5), .val (.ref b2), .val (.int ((4 : Int32) + ((p4 &&& (2147483647 : Int32)) % (29 : Int32)))), .unset, .unset, .unset] [])) t → P0 t := by
    intro t kt
    refine K0 t ?_
    show Steps p.tables e below (s₁.setTop (mkF m 0 #[.val (.long q0), .second, .val (.long q1), .second, .val (.long q2), .second, .val (.long q3), .second, .val (.int p4), .val (.int p5), .unset, .unset, .unset, .unset, .unset] [])) t
    refine XS.bipush X0.here hx rfl (hb hby at_0) ?_
    show Steps p.tables e below (s₁.setTop (mkF m 2 #[.val (.long q0), .second, .val (.long q1), .second, .val (.long q2), .second, .val (.long q3), .second, .val (.int p4), .val (.int p5), .unset, .unset, .unset, .unset, .unset] [(.int (32 : Int32))])) t
    refine st1 _ ?_
    show Steps p.tables e below (T1.setTop (mkF m 4 #[.val (.long q0), .second, .val (.long q1), .second, .val (.long q2), .second, .val (.long q3), .second, .val (.int p4), .val (.int p5), .unset, .unset, .unset, .unset, .unset] [(.ref b2)])) t
    refine XS.dup X1.here hx rfl (hb hby at_4) rfl rfl ?_
    show Steps p.tables e below (T1.setTop (mkF m 5 #[.val (.long q0), .second, .val (.long q1), .second, .val (.long q2), .second, .val (.long q3), .second, .val (.int p4), .val (.int p5), .unset, .unset, .unset, .unset, .unset] [(.ref b2), (.ref b2)])) t
    refine XS.iconst X1.here hx rfl (hb hby at_5) ?_
    show Steps p.tables e below (T1.setTop (mkF m 6 #[.val (.long q0), .second, .val (.long q1), .second, .val (.long q2), .second, .val (.long q3), .second, .val (.int p4), .val (.int p5), .unset, .unset, .unset, .unset, .unset] [(.int (0 : Int32)), (.ref b2), (.ref b2)])) t
    refine XS.lloadN X1.here hx rfl (hb hby at_6) rfl ?_
    show Steps p.tables e below (T1.setTop (mkF m 7 #[.val (.long q0), .second, .val (.long q1), .second, .val (.long q2), .second, .val (.long q3), .second, .val (.int p4), .val (.int p5), .unset, .unset, .unset, .unset, .unset] [(.long q0), (.int (0 : Int32)), (.ref b2), (.ref b2)])) t
    refine XS.l2i X1.here hx rfl (hb hby at_7) rfl ?_
    show Steps p.tables e below (T1.setTop (mkF m 8 #[.val (.long q0), .second, .val (.long q1), .second, .val (.long q2), .second, .val (.long q3), .second, .val (.int p4), .val (.int p5), .unset, .unset, .unset, .unset, .unset] [(.int (q0.toInt32)), (.int (0 : Int32)), (.ref b2), (.ref b2)])) t
    refine XS.i2b X1.here hx rfl (hb hby at_8) rfl ?_
    show Steps p.tables e below (T1.setTop (mkF m 9 #[.val (.long q0), .second, .val (.long q1), .second, .val (.long q2), .second, .val (.long q3), .second, .val (.int p4), .val (.int p5), .unset, .unset, .unset, .unset, .unset] [(.int ((q0.toInt32).toInt8.toInt32)), (.int (0 : Int32)), (.ref b2), (.ref b2)])) t
    refine st2 _ ?_
    show Steps p.tables e below (T2.setTop (mkF m 10 #[.val (.long q0), .second, .val (.long q1), .second, .val (.long q2), .second, .val (.long q3), .second, .val (.int p4), .val (.int p5), .unset, .unset, .unset, .unset, .unset] [(.ref b2)])) t
    refine XS.dup X2.here hx rfl (hb hby at_10) rfl rfl ?_
    show Steps p.tables e below (T2.setTop (mkF m 11 #[.val (.long q0), .second, .val (.long q1), .second, .val (.long q2), .second, .val (.long q3), .second, .val (.int p4), .val (.int p5), .unset, .unset, .unset, .unset, .unset] [(.ref b2), (.ref b2)])) t
    refine XS.iconst X2.here hx rfl (hb hby at_11) ?_
    show Steps p.tables e below (T2.setTop (mkF m 12 #[.val (.long q0), .second, .val (.long q1), .second, .val (.long q2), .second, .val (.long q3), .second, .val (.int p4), .val (.int p5), .unset, .unset, .unset, .unset, .unset] [(.int (1 : Int32)), (.ref b2), (.ref b2)])) t
    refine XS.lloadN X2.here hx rfl (hb hby at_12) rfl ?_
    show Steps p.tables e below (T2.setTop (mkF m 13 #[.val (.long q0), .second, .val (.long q1), .second, .val (.long q2), .second, .val (.long q3), .second, .val (.int p4), .val (.int p5), .unset, .unset, .unset, .unset, .unset] [(.long q0), (.int (1 : Int32)), (.ref b2), (.ref b2)])) t
    refine XS.bipush X2.here hx rfl (hb hby at_13) ?_
    show Steps p.tables e below (T2.setTop (mkF m 15 #[.val (.long q0), .second, .val (.long q1), .second, .val (.long q2), .second, .val (.long q3), .second, .val (.int p4), .val (.int p5), .unset, .unset, .unset, .unset, .unset] [(.int (8 : Int32)), (.long q0), (.int (1 : Int32)), (.ref b2), (.ref b2)])) t
    refine XS.lushr X2.here hx rfl (hb hby at_15) rfl ?_
    show Steps p.tables e below (T2.setTop (mkF m 16 #[.val (.long q0), .second, .val (.long q1), .second, .val (.long q2), .second, .val (.long q3), .second, .val (.int p4), .val (.int p5), .unset, .unset, .unset, .unset, .unset] [(.long ((q0.toUInt64 >>> ((8 : Int32) &&& 0x3f).toInt64.toUInt64).toInt64)), (.int (1 : Int32)), (.ref b2), (.ref b2)])) t
    refine XS.l2i X2.here hx rfl (hb hby at_16) rfl ?_
    show Steps p.tables e below (T2.setTop (mkF m 17 #[.val (.long q0), .second, .val (.long q1), .second, .val (.long q2), .second, .val (.long q3), .second, .val (.int p4), .val (.int p5), .unset, .unset, .unset, .unset, .unset] [(.int (((q0.toUInt64 >>> ((8 : Int32) &&& 0x3f).toInt64.toUInt64).toInt64).toInt32)), (.int (1 : Int32)), (.ref b2), (.ref b2)])) t
    refine XS.i2b X2.here hx rfl (hb hby at_17) rfl ?_
    show Steps p.tables e below (T2.setTop (mkF m 18 #[.val (.long q0), .second, .val (.long q1), .second, .val (.long q2), .second, .val (.long q3), .second, .val (.int p4), .val (.int p5), .unset, .unset, .unset, .unset, .unset] [(.int ((((q0.toUInt64 >>> ((8 : Int32) &&& 0x3f).toInt64.toUInt64).toInt64).toInt32).toInt8.toInt32)), (.int (1 : Int32)), (.ref b2), (.ref b2)])) t
    refine st4 _ ?_
    show Steps p.tables e below (T4.setTop (mkF m 19 #[.val (.long q0), .second, .val (.long q1), .second, .val (.long q2), .second, .val (.long q3), .second, .val (.int p4), .val (.int p5), .unset, .unset, .unset, .unset, .unset] [(.ref b2)])) t
    refine XS.dup X4.here hx rfl (hb hby at_19) rfl rfl ?_
    show Steps p.tables e below (T4.setTop (mkF m 20 #[.val (.long q0), .second, .val (.long q1), .second, .val (.long q2), .second, .val (.long q3), .second, .val (.int p4), .val (.int p5), .unset, .unset, .unset, .unset, .unset] [(.ref b2), (.ref b2)])) t
    refine XS.iconst X4.here hx rfl (hb hby at_20) ?_
    show Steps p.tables e below (T4.setTop (mkF m 21 #[.val (.long q0), .second, .val (.long q1), .second, .val (.long q2), .second, .val (.long q3), .second, .val (.int p4), .val (.int p5), .unset, .unset, .unset, .unset, .unset] [(.int (2 : Int32)), (.ref b2), (.ref b2)])) t
    refine XS.lloadN X4.here hx rfl (hb hby at_21) rfl ?_
    show Steps p.tables e below (T4.setTop (mkF m 22 #[.val (.long q0), .second, .val (.long q1), .second, .val (.long q2), .second, .val (.long q3), .second, .val (.int p4), .val (.int p5), .unset, .unset, .unset, .unset, .unset] [(.long q0), (.int (2 : Int32)), (.ref b2), (.ref b2)])) t
    refine XS.bipush X4.here hx rfl (hb hby at_22) ?_
    show Steps p.tables e below (T4.setTop (mkF m 24 #[.val (.long q0), .second, .val (.long q1), .second, .val (.long q2), .second, .val (.long q3), .second, .val (.int p4), .val (.int p5), .unset, .unset, .unset, .unset, .unset] [(.int (16 : Int32)), (.long q0), (.int (2 : Int32)), (.ref b2), (.ref b2)])) t
    refine XS.lushr X4.here hx rfl (hb hby at_24) rfl ?_
    show Steps p.tables e below (T4.setTop (mkF m 25 #[.val (.long q0), .second, .val (.long q1), .second, .val (.long q2), .second, .val (.long q3), .second, .val (.int p4), .val (.int p5), .unset, .unset, .unset, .unset, .unset] [(.long ((q0.toUInt64 >>> ((16 : Int32) &&& 0x3f).toInt64.toUInt64).toInt64)), (.int (2 : Int32)), (.ref b2), (.ref b2)])) t
    refine XS.l2i X4.here hx rfl (hb hby at_25) rfl ?_
    show Steps p.tables e below (T4.setTop (mkF m 26 #[.val (.long q0), .second, .val (.long q1), .second, .val (.long q2), .second, .val (.long q3), .second, .val (.int p4), .val (.int p5), .unset, .unset, .unset, .unset, .unset] [(.int (((q0.toUInt64 >>> ((16 : Int32) &&& 0x3f).toInt64.toUInt64).toInt64).toInt32)), (.int (2 : Int32)), (.ref b2), (.ref b2)])) t
    refine XS.i2b X4.here hx rfl (hb hby at_26) rfl ?_
    show Steps p.tables e below (T4.setTop (mkF m 27 #[.val (.long q0), .second, .val (.long q1), .second, .val (.long q2), .second, .val (.long q3), .second, .val (.int p4), .val (.int p5), .unset, .unset, .unset, .unset, .unset] [(.int ((((q0.toUInt64 >>> ((16 : Int32) &&& 0x3f).toInt64.toUInt64).toInt64).toInt32).toInt8.toInt32)), (.int (2 : Int32)), (.ref b2), (.ref b2)])) t
    refine st6 _ ?_
    show Steps p.tables e below (T6.setTop (mkF m 28 #[.val (.long q0), .second, .val (.long q1), .second, .val (.long q2), .second, .val (.long q3), .second, .val (.int p4), .val (.int p5), .unset, .unset, .unset, .unset, .unset] [(.ref b2)])) t
    refine XS.dup X6.here hx rfl (hb hby at_28) rfl rfl ?_
    show Steps p.tables e below (T6.setTop (mkF m 29 #[.val (.long q0), .second, .val (.long q1), .second, .val (.long q2), .second, .val (.long q3), .second, .val (.int p4), .val (.int p5), .unset, .unset, .unset, .unset, .unset] [(.ref b2), (.ref b2)])) t
    refine XS.iconst X6.here hx rfl (hb hby at_29) ?_
    show Steps p.tables e below (T6.setTop (mkF m 30 #[.val (.long q0), .second, .val (.long q1), .second, .val (.long q2), .second, .val (.long q3), .second, .val (.int p4), .val (.int p5), .unset, .unset, .unset, .unset, .unset] [(.int (3 : Int32)), (.ref b2), (.ref b2)])) t
    refine XS.lloadN X6.here hx rfl (hb hby at_30) rfl ?_
    show Steps p.tables e below (T6.setTop (mkF m 31 #[.val (.long q0), .second, .val (.long q1), .second, .val (.long q2), .second, .val (.long q3), .second, .val (.int p4), .val (.int p5), .unset, .unset, .unset, .unset, .unset] [(.long q0), (.int (3 : Int32)), (.ref b2), (.ref b2)])) t
    refine XS.bipush X6.here hx rfl (hb hby at_31) ?_
    show Steps p.tables e below (T6.setTop (mkF m 33 #[.val (.long q0), .second, .val (.long q1), .second, .val (.long q2), .second, .val (.long q3), .second, .val (.int p4), .val (.int p5), .unset, .unset, .unset, .unset, .unset] [(.int (24 : Int32)), (.long q0), (.int (3 : Int32)), (.ref b2), (.ref b2)])) t
    refine XS.lushr X6.here hx rfl (hb hby at_33) rfl ?_
    show Steps p.tables e below (T6.setTop (mkF m 34 #[.val (.long q0), .second, .val (.long q1), .second, .val (.long q2), .second, .val (.long q3), .second, .val (.int p4), .val (.int p5), .unset, .unset, .unset, .unset, .unset] [(.long ((q0.toUInt64 >>> ((24 : Int32) &&& 0x3f).toInt64.toUInt64).toInt64)), (.int (3 : Int32)), (.ref b2), (.ref b2)])) t
    refine XS.l2i X6.here hx rfl (hb hby at_34) rfl ?_
    show Steps p.tables e below (T6.setTop (mkF m 35 #[.val (.long q0), .second, .val (.long q1), .second, .val (.long q2), .second, .val (.long q3), .second, .val (.int p4), .val (.int p5), .unset, .unset, .unset, .unset, .unset] [(.int (((q0.toUInt64 >>> ((24 : Int32) &&& 0x3f).toInt64.toUInt64).toInt64).toInt32)), (.int (3 : Int32)), (.ref b2), (.ref b2)])) t
    refine XS.i2b X6.here hx rfl (hb hby at_35) rfl ?_
    show Steps p.tables e below (T6.setTop (mkF m 36 #[.val (.long q0), .second, .val (.long q1), .second, .val (.long q2), .second, .val (.long q3), .second, .val (.int p4), .val (.int p5), .unset, .unset, .unset, .unset, .unset] [(.int ((((q0.toUInt64 >>> ((24 : Int32) &&& 0x3f).toInt64.toUInt64).toInt64).toInt32).toInt8.toInt32)), (.int (3 : Int32)), (.ref b2), (.ref b2)])) t
    refine st8 _ ?_
    show Steps p.tables e below (T8.setTop (mkF m 37 #[.val (.long q0), .second, .val (.long q1), .second, .val (.long q2), .second, .val (.long q3), .second, .val (.int p4), .val (.int p5), .unset, .unset, .unset, .unset, .unset] [(.ref b2)])) t
    refine XS.dup X8.here hx rfl (hb hby at_37) rfl rfl ?_
    show Steps p.tables e below (T8.setTop (mkF m 38 #[.val (.long q0), .second, .val (.long q1), .second, .val (.long q2), .second, .val (.long q3), .second, .val (.int p4), .val (.int p5), .unset, .unset, .unset, .unset, .unset] [(.ref b2), (.ref b2)])) t
    refine XS.iconst X8.here hx rfl (hb hby at_38) ?_
    show Steps p.tables e below (T8.setTop (mkF m 39 #[.val (.long q0), .second, .val (.long q1), .second, .val (.long q2), .second, .val (.long q3), .second, .val (.int p4), .val (.int p5), .unset, .unset, .unset, .unset, .unset] [(.int (4 : Int32)), (.ref b2), (.ref b2)])) t
    refine XS.lloadN X8.here hx rfl (hb hby at_39) rfl ?_
    show Steps p.tables e below (T8.setTop (mkF m 40 #[.val (.long q0), .second, .val (.long q1), .second, .val (.long q2), .second, .val (.long q3), .second, .val (.int p4), .val (.int p5), .unset, .unset, .unset, .unset, .unset] [(.long q0), (.int (4 : Int32)), (.ref b2), (.ref b2)])) t
    refine XS.bipush X8.here hx rfl (hb hby at_40) ?_
    show Steps p.tables e below (T8.setTop (mkF m 42 #[.val (.long q0), .second, .val (.long q1), .second, .val (.long q2), .second, .val (.long q3), .second, .val (.int p4), .val (.int p5), .unset, .unset, .unset, .unset, .unset] [(.int (32 : Int32)), (.long q0), (.int (4 : Int32)), (.ref b2), (.ref b2)])) t
    refine XS.lushr X8.here hx rfl (hb hby at_42) rfl ?_
    show Steps p.tables e below (T8.setTop (mkF m 43 #[.val (.long q0), .second, .val (.long q1), .second, .val (.long q2), .second, .val (.long q3), .second, .val (.int p4), .val (.int p5), .unset, .unset, .unset, .unset, .unset] [(.long ((q0.toUInt64 >>> ((32 : Int32) &&& 0x3f).toInt64.toUInt64).toInt64)), (.int (4 : Int32)), (.ref b2), (.ref b2)])) t
    refine XS.l2i X8.here hx rfl (hb hby at_43) rfl ?_
    show Steps p.tables e below (T8.setTop (mkF m 44 #[.val (.long q0), .second, .val (.long q1), .second, .val (.long q2), .second, .val (.long q3), .second, .val (.int p4), .val (.int p5), .unset, .unset, .unset, .unset, .unset] [(.int (((q0.toUInt64 >>> ((32 : Int32) &&& 0x3f).toInt64.toUInt64).toInt64).toInt32)), (.int (4 : Int32)), (.ref b2), (.ref b2)])) t
    refine XS.i2b X8.here hx rfl (hb hby at_44) rfl ?_
    show Steps p.tables e below (T8.setTop (mkF m 45 #[.val (.long q0), .second, .val (.long q1), .second, .val (.long q2), .second, .val (.long q3), .second, .val (.int p4), .val (.int p5), .unset, .unset, .unset, .unset, .unset] [(.int ((((q0.toUInt64 >>> ((32 : Int32) &&& 0x3f).toInt64.toUInt64).toInt64).toInt32).toInt8.toInt32)), (.int (4 : Int32)), (.ref b2), (.ref b2)])) t
    refine st10 _ ?_
    show Steps p.tables e below (T10.setTop (mkF m 46 #[.val (.long q0), .second, .val (.long q1), .second, .val (.long q2), .second, .val (.long q3), .second, .val (.int p4), .val (.int p5), .unset, .unset, .unset, .unset, .unset] [(.ref b2)])) t
    refine XS.dup X10.here hx rfl (hb hby at_46) rfl rfl ?_
    show Steps p.tables e below (T10.setTop (mkF m 47 #[.val (.long q0), .second, .val (.long q1), .second, .val (.long q2), .second, .val (.long q3), .second, .val (.int p4), .val (.int p5), .unset, .unset, .unset, .unset, .unset] [(.ref b2), (.ref b2)])) t
    refine XS.iconst X10.here hx rfl (hb hby at_47) ?_
    show Steps p.tables e below (T10.setTop (mkF m 48 #[.val (.long q0), .second, .val (.long q1), .second, .val (.long q2), .second, .val (.long q3), .second, .val (.int p4), .val (.int p5), .unset, .unset, .unset, .unset, .unset] [(.int (5 : Int32)), (.ref b2), (.ref b2)])) t
    refine XS.lloadN X10.here hx rfl (hb hby at_48) rfl ?_
    show Steps p.tables e below (T10.setTop (mkF m 49 #[.val (.long q0), .second, .val (.long q1), .second, .val (.long q2), .second, .val (.long q3), .second, .val (.int p4), .val (.int p5), .unset, .unset, .unset, .unset, .unset] [(.long q0), (.int (5 : Int32)), (.ref b2), (.ref b2)])) t
    refine XS.bipush X10.here hx rfl (hb hby at_49) ?_
    show Steps p.tables e below (T10.setTop (mkF m 51 #[.val (.long q0), .second, .val (.long q1), .second, .val (.long q2), .second, .val (.long q3), .second, .val (.int p4), .val (.int p5), .unset, .unset, .unset, .unset, .unset] [(.int (40 : Int32)), (.long q0), (.int (5 : Int32)), (.ref b2), (.ref b2)])) t
    refine XS.lushr X10.here hx rfl (hb hby at_51) rfl ?_
    show Steps p.tables e below (T10.setTop (mkF m 52 #[.val (.long q0), .second, .val (.long q1), .second, .val (.long q2), .second, .val (.long q3), .second, .val (.int p4), .val (.int p5), .unset, .unset, .unset, .unset, .unset] [(.long ((q0.toUInt64 >>> ((40 : Int32) &&& 0x3f).toInt64.toUInt64).toInt64)), (.int (5 : Int32)), (.ref b2), (.ref b2)])) t
    refine XS.l2i X10.here hx rfl (hb hby at_52) rfl ?_
    show Steps p.tables e below (T10.setTop (mkF m 53 #[.val (.long q0), .second, .val (.long q1), .second, .val (.long q2), .second, .val (.long q3), .second, .val (.int p4), .val (.int p5), .unset, .unset, .unset, .unset, .unset] [(.int (((q0.toUInt64 >>> ((40 : Int32) &&& 0x3f).toInt64.toUInt64).toInt64).toInt32)), (.int (5 : Int32)), (.ref b2), (.ref b2)])) t
    refine XS.i2b X10.here hx rfl (hb hby at_53) rfl ?_
    show Steps p.tables e below (T10.setTop (mkF m 54 #[.val (.long q0), .second, .val (.long q1), .second, .val (.long q2), .second, .val (.long q3), .second, .val (.int p4), .val (.int p5), .unset, .unset, .unset, .unset, .unset] [(.int ((((q0.toUInt64 >>> ((40 : Int32) &&& 0x3f).toInt64.toUInt64).toInt64).toInt32).toInt8.toInt32)), (.int (5 : Int32)), (.ref b2), (.ref b2)])) t
    refine st12 _ ?_
    show Steps p.tables e below (T12.setTop (mkF m 55 #[.val (.long q0), .second, .val (.long q1), .second, .val (.long q2), .second, .val (.long q3), .second, .val (.int p4), .val (.int p5), .unset, .unset, .unset, .unset, .unset] [(.ref b2)])) t
    refine XS.dup X12.here hx rfl (hb hby at_55) rfl rfl ?_
    show Steps p.tables e below (T12.setTop (mkF m 56 #[.val (.long q0), .second, .val (.long q1), .second, .val (.long q2), .second, .val (.long q3), .second, .val (.int p4), .val (.int p5), .unset, .unset, .unset, .unset, .unset] [(.ref b2), (.ref b2)])) t
    refine XS.bipush X12.here hx rfl (hb hby at_56) ?_
    show Steps p.tables e below (T12.setTop (mkF m 58 #[.val (.long q0), .second, .val (.long q1), .second, .val (.long q2), .second, .val (.long q3), .second, .val (.int p4), .val (.int p5), .unset, .unset, .unset, .unset, .unset] [(.int (6 : Int32)), (.ref b2), (.ref b2)])) t
    refine XS.lloadN X12.here hx rfl (hb hby at_58) rfl ?_
    show Steps p.tables e below (T12.setTop (mkF m 59 #[.val (.long q0), .second, .val (.long q1), .second, .val (.long q2), .second, .val (.long q3), .second, .val (.int p4), .val (.int p5), .unset, .unset, .unset, .unset, .unset] [(.long q0), (.int (6 : Int32)), (.ref b2), (.ref b2)])) t
    refine XS.bipush X12.here hx rfl (hb hby at_59) ?_
    show Steps p.tables e below (T12.setTop (mkF m 61 #[.val (.long q0), .second, .val (.long q1), .second, .val (.long q2), .second, .val (.long q3), .second, .val (.int p4), .val (.int p5), .unset, .unset, .unset, .unset, .unset] [(.int (48 : Int32)), (.long q0), (.int (6 : Int32)), (.ref b2), (.ref b2)])) t
    refine XS.lushr X12.here hx rfl (hb hby at_61) rfl ?_
    show Steps p.tables e below (T12.setTop (mkF m 62 #[.val (.long q0), .second, .val (.long q1), .second, .val (.long q2), .second, .val (.long q3), .second, .val (.int p4), .val (.int p5), .unset, .unset, .unset, .unset, .unset] [(.long ((q0.toUInt64 >>> ((48 : Int32) &&& 0x3f).toInt64.toUInt64).toInt64)), (.int (6 : Int32)), (.ref b2), (.ref b2)])) t
    refine XS.l2i X12.here hx rfl (hb hby at_62) rfl ?_
    show Steps p.tables e below (T12.setTop (mkF m 63 #[.val (.long q0), .second, .val (.long q1), .second, .val (.long q2), .second, .val (.long q3), .second, .val (.int p4), .val (.int p5), .unset, .unset, .unset, .unset, .unset] [(.int (((q0.toUInt64 >>> ((48 : Int32) &&& 0x3f).toInt64.toUInt64).toInt64).toInt32)), (.int (6 : Int32)), (.ref b2), (.ref b2)])) t
    refine XS.i2b X12.here hx rfl (hb hby at_63) rfl ?_
    show Steps p.tables e below (T12.setTop (mkF m 64 #[.val (.long q0), .second, .val (.long q1), .second, .val (.long q2), .second, .val (.long q3), .second, .val (.int p4), .val (.int p5), .unset, .unset, .unset, .unset, .unset] [(.int ((((q0.toUInt64 >>> ((48 : Int32) &&& 0x3f).toInt64.toUInt64).toInt64).toInt32).toInt8.toInt32)), (.int (6 : Int32)), (.ref b2), (.ref b2)])) t
    refine st14 _ ?_
    show Steps p.tables e below (T14.setTop (mkF m 65 #[.val (.long q0), .second, .val (.long q1), .second, .val (.long q2), .second, .val (.long q3), .second, .val (.int p4), .val (.int p5), .unset, .unset, .unset, .unset, .unset] [(.ref b2)])) t
    refine XS.dup X14.here hx rfl (hb hby at_65) rfl rfl ?_
    show Steps p.tables e below (T14.setTop (mkF m 66 #[.val (.long q0), .second, .val (.long q1), .second, .val (.long q2), .second, .val (.long q3), .second, .val (.int p4), .val (.int p5), .unset, .unset, .unset, .unset, .unset] [(.ref b2), (.ref b2)])) t
    refine XS.bipush X14.here hx rfl (hb hby at_66) ?_
    show Steps p.tables e below (T14.setTop (mkF m 68 #[.val (.long q0), .second, .val (.long q1), .second, .val (.long q2), .second, .val (.long q3), .second, .val (.int p4), .val (.int p5), .unset, .unset, .unset, .unset, .unset] [(.int (7 : Int32)), (.ref b2), (.ref b2)])) t
    refine XS.lloadN X14.here hx rfl (hb hby at_68) rfl ?_
    show Steps p.tables e below (T14.setTop (mkF m 69 #[.val (.long q0), .second, .val (.long q1), .second, .val (.long q2), .second, .val (.long q3), .second, .val (.int p4), .val (.int p5), .unset, .unset, .unset, .unset, .unset] [(.long q0), (.int (7 : Int32)), (.ref b2), (.ref b2)])) t
    refine XS.bipush X14.here hx rfl (hb hby at_69) ?_
    show Steps p.tables e below (T14.setTop (mkF m 71 #[.val (.long q0), .second, .val (.long q1), .second, .val (.long q2), .second, .val (.long q3), .second, .val (.int p4), .val (.int p5), .unset, .unset, .unset, .unset, .unset] [(.int (56 : Int32)), (.long q0), (.int (7 : Int32)), (.ref b2), (.ref b2)])) t
    refine XS.lushr X14.here hx rfl (hb hby at_71) rfl ?_
    show Steps p.tables e below (T14.setTop (mkF m 72 #[.val (.long q0), .second, .val (.long q1), .second, .val (.long q2), .second, .val (.long q3), .second, .val (.int p4), .val (.int p5), .unset, .unset, .unset, .unset, .unset] [(.long ((q0.toUInt64 >>> ((56 : Int32) &&& 0x3f).toInt64.toUInt64).toInt64)), (.int (7 : Int32)), (.ref b2), (.ref b2)])) t
    refine XS.l2i X14.here hx rfl (hb hby at_72) rfl ?_
    show Steps p.tables e below (T14.setTop (mkF m 73 #[.val (.long q0), .second, .val (.long q1), .second, .val (.long q2), .second, .val (.long q3), .second, .val (.int p4), .val (.int p5), .unset, .unset, .unset, .unset, .unset] [(.int (((q0.toUInt64 >>> ((56 : Int32) &&& 0x3f).toInt64.toUInt64).toInt64).toInt32)), (.int (7 : Int32)), (.ref b2), (.ref b2)])) t
    refine XS.i2b X14.here hx rfl (hb hby at_73) rfl ?_
    show Steps p.tables e below (T14.setTop (mkF m 74 #[.val (.long q0), .second, .val (.long q1), .second, .val (.long q2), .second, .val (.long q3), .second, .val (.int p4), .val (.int p5), .unset, .unset, .unset, .unset, .unset] [(.int ((((q0.toUInt64 >>> ((56 : Int32) &&& 0x3f).toInt64.toUInt64).toInt64).toInt32).toInt8.toInt32)), (.int (7 : Int32)), (.ref b2), (.ref b2)])) t
    refine st16 _ ?_
    show Steps p.tables e below (T16.setTop (mkF m 75 #[.val (.long q0), .second, .val (.long q1), .second, .val (.long q2), .second, .val (.long q3), .second, .val (.int p4), .val (.int p5), .unset, .unset, .unset, .unset, .unset] [(.ref b2)])) t
    refine XS.dup X16.here hx rfl (hb hby at_75) rfl rfl ?_
    show Steps p.tables e below (T16.setTop (mkF m 76 #[.val (.long q0), .second, .val (.long q1), .second, .val (.long q2), .second, .val (.long q3), .second, .val (.int p4), .val (.int p5), .unset, .unset, .unset, .unset, .unset] [(.ref b2), (.ref b2)])) t
    refine XS.bipush X16.here hx rfl (hb hby at_76) ?_
    show Steps p.tables e below (T16.setTop (mkF m 78 #[.val (.long q0), .second, .val (.long q1), .second, .val (.long q2), .second, .val (.long q3), .second, .val (.int p4), .val (.int p5), .unset, .unset, .unset, .unset, .unset] [(.int (8 : Int32)), (.ref b2), (.ref b2)])) t
    refine XS.lloadN X16.here hx rfl (hb hby at_78) rfl ?_
    show Steps p.tables e below (T16.setTop (mkF m 79 #[.val (.long q0), .second, .val (.long q1), .second, .val (.long q2), .second, .val (.long q3), .second, .val (.int p4), .val (.int p5), .unset, .unset, .unset, .unset, .unset] [(.long q1), (.int (8 : Int32)), (.ref b2), (.ref b2)])) t
    refine XS.l2i X16.here hx rfl (hb hby at_79) rfl ?_
    show Steps p.tables e below (T16.setTop (mkF m 80 #[.val (.long q0), .second, .val (.long q1), .second, .val (.long q2), .second, .val (.long q3), .second, .val (.int p4), .val (.int p5), .unset, .unset, .unset, .unset, .unset] [(.int (q1.toInt32)), (.int (8 : Int32)), (.ref b2), (.ref b2)])) t
    refine XS.i2b X16.here hx rfl (hb hby at_80) rfl ?_
    show Steps p.tables e below (T16.setTop (mkF m 81 #[.val (.long q0), .second, .val (.long q1), .second, .val (.long q2), .second, .val (.long q3), .second, .val (.int p4), .val (.int p5), .unset, .unset, .unset, .unset, .unset] [(.int ((q1.toInt32).toInt8.toInt32)), (.int (8 : Int32)), (.ref b2), (.ref b2)])) t
    refine st18 _ ?_
    show Steps p.tables e below (T18.setTop (mkF m 82 #[.val (.long q0), .second, .val (.long q1), .second, .val (.long q2), .second, .val (.long q3), .second, .val (.int p4), .val (.int p5), .unset, .unset, .unset, .unset, .unset] [(.ref b2)])) t
    refine XS.dup X18.here hx rfl (hb hby at_82) rfl rfl ?_
    show Steps p.tables e below (T18.setTop (mkF m 83 #[.val (.long q0), .second, .val (.long q1), .second, .val (.long q2), .second, .val (.long q3), .second, .val (.int p4), .val (.int p5), .unset, .unset, .unset, .unset, .unset] [(.ref b2), (.ref b2)])) t
    refine XS.bipush X18.here hx rfl (hb hby at_83) ?_
    show Steps p.tables e below (T18.setTop (mkF m 85 #[.val (.long q0), .second, .val (.long q1), .second, .val (.long q2), .second, .val (.long q3), .second, .val (.int p4), .val (.int p5), .unset, .unset, .unset, .unset, .unset] [(.int (9 : Int32)), (.ref b2), (.ref b2)])) t
    refine XS.lloadN X18.here hx rfl (hb hby at_85) rfl ?_
    show Steps p.tables e below (T18.setTop (mkF m 86 #[.val (.long q0), .second, .val (.long q1), .second, .val (.long q2), .second, .val (.long q3), .second, .val (.int p4), .val (.int p5), .unset, .unset, .unset, .unset, .unset] [(.long q1), (.int (9 : Int32)), (.ref b2), (.ref b2)])) t
    refine XS.bipush X18.here hx rfl (hb hby at_86) ?_
    show Steps p.tables e below (T18.setTop (mkF m 88 #[.val (.long q0), .second, .val (.long q1), .second, .val (.long q2), .second, .val (.long q3), .second, .val (.int p4), .val (.int p5), .unset, .unset, .unset, .unset, .unset] [(.int (8 : Int32)), (.long q1), (.int (9 : Int32)), (.ref b2), (.ref b2)])) t
    refine XS.lushr X18.here hx rfl (hb hby at_88) rfl ?_
    show Steps p.tables e below (T18.setTop (mkF m 89 #[.val (.long q0), .second, .val (.long q1), .second, .val (.long q2), .second, .val (.long q3), .second, .val (.int p4), .val (.int p5), .unset, .unset, .unset, .unset, .unset] [(.long ((q1.toUInt64 >>> ((8 : Int32) &&& 0x3f).toInt64.toUInt64).toInt64)), (.int (9 : Int32)), (.ref b2), (.ref b2)])) t
    refine XS.l2i X18.here hx rfl (hb hby at_89) rfl ?_
    show Steps p.tables e below (T18.setTop (mkF m 90 #[.val (.long q0), .second, .val (.long q1), .second, .val (.long q2), .second, .val (.long q3), .second, .val (.int p4), .val (.int p5), .unset, .unset, .unset, .unset, .unset] [(.int (((q1.toUInt64 >>> ((8 : Int32) &&& 0x3f).toInt64.toUInt64).toInt64).toInt32)), (.int (9 : Int32)), (.ref b2), (.ref b2)])) t
    refine XS.i2b X18.here hx rfl (hb hby at_90) rfl ?_
    show Steps p.tables e below (T18.setTop (mkF m 91 #[.val (.long q0), .second, .val (.long q1), .second, .val (.long q2), .second, .val (.long q3), .second, .val (.int p4), .val (.int p5), .unset, .unset, .unset, .unset, .unset] [(.int ((((q1.toUInt64 >>> ((8 : Int32) &&& 0x3f).toInt64.toUInt64).toInt64).toInt32).toInt8.toInt32)), (.int (9 : Int32)), (.ref b2), (.ref b2)])) t
    refine st20 _ ?_
    show Steps p.tables e below (T20.setTop (mkF m 92 #[.val (.long q0), .second, .val (.long q1), .second, .val (.long q2), .second, .val (.long q3), .second, .val (.int p4), .val (.int p5), .unset, .unset, .unset, .unset, .unset] [(.ref b2)])) t
    refine XS.dup X20.here hx rfl (hb hby at_92) rfl rfl ?_
    show Steps p.tables e below (T20.setTop (mkF m 93 #[.val (.long q0), .second, .val (.long q1), .second, .val (.long q2), .second, .val (.long q3), .second, .val (.int p4), .val (.int p5), .unset, .unset, .unset, .unset, .unset] [(.ref b2), (.ref b2)])) t
    refine XS.bipush X20.here hx rfl (hb hby at_93) ?_
    show Steps p.tables e below (T20.setTop (mkF m 95 #[.val (.long q0), .second, .val (.long q1), .second, .val (.long q2), .second, .val (.long q3), .second, .val (.int p4), .val (.int p5), .unset, .unset, .unset, .unset, .unset] [(.int (10 : Int32)), (.ref b2), (.ref b2)])) t
    refine XS.lloadN X20.here hx rfl (hb hby at_95) rfl ?_
    show Steps p.tables e below (T20.setTop (mkF m 96 #[.val (.long q0), .second, .val (.long q1), .second, .val (.long q2), .second, .val (.long q3), .second, .val (.int p4), .val (.int p5), .unset, .unset, .unset, .unset, .unset] [(.long q1), (.int (10 : Int32)), (.ref b2), (.ref b2)])) t
    refine XS.bipush X20.here hx rfl (hb hby at_96) ?_
    show Steps p.tables e below (T20.setTop (mkF m 98 #[.val (.long q0), .second, .val (.long q1), .second, .val (.long q2), .second, .val (.long q3), .second, .val (.int p4), .val (.int p5), .unset, .unset, .unset, .unset, .unset] [(.int (16 : Int32)), (.long q1), (.int (10 : Int32)), (.ref b2), (.ref b2)])) t
    refine XS.lushr X20.here hx rfl (hb hby at_98) rfl ?_
    show Steps p.tables e below (T20.setTop (mkF m 99 #[.val (.long q0), .second, .val (.long q1), .second, .val (.long q2), .second, .val (.long q3), .second, .val (.int p4), .val (.int p5), .unset, .unset, .unset, .unset, .unset] [(.long ((q1.toUInt64 >>> ((16 : Int32) &&& 0x3f).toInt64.toUInt64).toInt64)), (.int (10 : Int32)), (.ref b2), (.ref b2)])) t
    refine XS.l2i X20.here hx rfl (hb hby at_99) rfl ?_
    show Steps p.tables e below (T20.setTop (mkF m 100 #[.val (.long q0), .second, .val (.long q1), .second, .val (.long q2), .second, .val (.long q3), .second, .val (.int p4), .val (.int p5), .unset, .unset, .unset, .unset, .unset] [(.int (((q1.toUInt64 >>> ((16 : Int32) &&& 0x3f).toInt64.toUInt64).toInt64).toInt32)), (.int (10 : Int32)), (.ref b2), (.ref b2)])) t
    refine XS.i2b X20.here hx rfl (hb hby at_100) rfl ?_
    show Steps p.tables e below (T20.setTop (mkF m 101 #[.val (.long q0), .second, .val (.long q1), .second, .val (.long q2), .second, .val (.long q3), .second, .val (.int p4), .val (.int p5), .unset, .unset, .unset, .unset, .unset] [(.int ((((q1.toUInt64 >>> ((16 : Int32) &&& 0x3f).toInt64.toUInt64).toInt64).toInt32).toInt8.toInt32)), (.int (10 : Int32)), (.ref b2), (.ref b2)])) t
    refine st22 _ ?_
    show Steps p.tables e below (T22.setTop (mkF m 102 #[.val (.long q0), .second, .val (.long q1), .second, .val (.long q2), .second, .val (.long q3), .second, .val (.int p4), .val (.int p5), .unset, .unset, .unset, .unset, .unset] [(.ref b2)])) t
    refine XS.dup X22.here hx rfl (hb hby at_102) rfl rfl ?_
    show Steps p.tables e below (T22.setTop (mkF m 103 #[.val (.long q0), .second, .val (.long q1), .second, .val (.long q2), .second, .val (.long q3), .second, .val (.int p4), .val (.int p5), .unset, .unset, .unset, .unset, .unset] [(.ref b2), (.ref b2)])) t
    refine XS.bipush X22.here hx rfl (hb hby at_103) ?_
    show Steps p.tables e below (T22.setTop (mkF m 105 #[.val (.long q0), .second, .val (.long q1), .second, .val (.long q2), .second, .val (.long q3), .second, .val (.int p4), .val (.int p5), .unset, .unset, .unset, .unset, .unset] [(.int (11 : Int32)), (.ref b2), (.ref b2)])) t
    refine XS.lloadN X22.here hx rfl (hb hby at_105) rfl ?_
    show Steps p.tables e below (T22.setTop (mkF m 106 #[.val (.long q0), .second, .val (.long q1), .second, .val (.long q2), .second, .val (.long q3), .second, .val (.int p4), .val (.int p5), .unset, .unset, .unset, .unset, .unset] [(.long q1), (.int (11 : Int32)), (.ref b2), (.ref b2)])) t
    refine XS.bipush X22.here hx rfl (hb hby at_106) ?_
    show Steps p.tables e below (T22.setTop (mkF m 108 #[.val (.long q0), .second, .val (.long q1), .second, .val (.long q2), .second, .val (.long q3), .second, .val (.int p4), .val (.int p5), .unset, .unset, .unset, .unset, .unset] [(.int (24 : Int32)), (.long q1), (.int (11 : Int32)), (.ref b2), (.ref b2)])) t
    refine XS.lushr X22.here hx rfl (hb hby at_108) rfl ?_
    show Steps p.tables e below (T22.setTop (mkF m 109 #[.val (.long q0), .second, .val (.long q1), .second, .val (.long q2), .second, .val (.long q3), .second, .val (.int p4), .val (.int p5), .unset, .unset, .unset, .unset, .unset] [(.long ((q1.toUInt64 >>> ((24 : Int32) &&& 0x3f).toInt64.toUInt64).toInt64)), (.int (11 : Int32)), (.ref b2), (.ref b2)])) t
    refine XS.l2i X22.here hx rfl (hb hby at_109) rfl ?_
    show Steps p.tables e below (T22.setTop (mkF m 110 #[.val (.long q0), .second, .val (.long q1), .second, .val (.long q2), .second, .val (.long q3), .second, .val (.int p4), .val (.int p5), .unset, .unset, .unset, .unset, .unset] [(.int (((q1.toUInt64 >>> ((24 : Int32) &&& 0x3f).toInt64.toUInt64).toInt64).toInt32)), (.int (11 : Int32)), (.ref b2), (.ref b2)])) t
    refine XS.i2b X22.here hx rfl (hb hby at_110) rfl ?_
    show Steps p.tables e below (T22.setTop (mkF m 111 #[.val (.long q0), .second, .val (.long q1), .second, .val (.long q2), .second, .val (.long q3), .second, .val (.int p4), .val (.int p5), .unset, .unset, .unset, .unset, .unset] [(.int ((((q1.toUInt64 >>> ((24 : Int32) &&& 0x3f).toInt64.toUInt64).toInt64).toInt32).toInt8.toInt32)), (.int (11 : Int32)), (.ref b2), (.ref b2)])) t
    refine st24 _ ?_
    show Steps p.tables e below (T24.setTop (mkF m 112 #[.val (.long q0), .second, .val (.long q1), .second, .val (.long q2), .second, .val (.long q3), .second, .val (.int p4), .val (.int p5), .unset, .unset, .unset, .unset, .unset] [(.ref b2)])) t
    refine XS.dup X24.here hx rfl (hb hby at_112) rfl rfl ?_
    show Steps p.tables e below (T24.setTop (mkF m 113 #[.val (.long q0), .second, .val (.long q1), .second, .val (.long q2), .second, .val (.long q3), .second, .val (.int p4), .val (.int p5), .unset, .unset, .unset, .unset, .unset] [(.ref b2), (.ref b2)])) t
    refine XS.bipush X24.here hx rfl (hb hby at_113) ?_
    show Steps p.tables e below (T24.setTop (mkF m 115 #[.val (.long q0), .second, .val (.long q1), .second, .val (.long q2), .second, .val (.long q3), .second, .val (.int p4), .val (.int p5), .unset, .unset, .unset, .unset, .unset] [(.int (12 : Int32)), (.ref b2), (.ref b2)])) t
    refine XS.lloadN X24.here hx rfl (hb hby at_115) rfl ?_
    show Steps p.tables e below (T24.setTop (mkF m 116 #[.val (.long q0), .second, .val (.long q1), .second, .val (.long q2), .second, .val (.long q3), .second, .val (.int p4), .val (.int p5), .unset, .unset, .unset, .unset, .unset] [(.long q1), (.int (12 : Int32)), (.ref b2), (.ref b2)])) t
    refine XS.bipush X24.here hx rfl (hb hby at_116) ?_
    show Steps p.tables e below (T24.setTop (mkF m 118 #[.val (.long q0), .second, .val (.long q1), .second, .val (.long q2), .second, .val (.long q3), .second, .val (.int p4), .val (.int p5), .unset, .unset, .unset, .unset, .unset] [(.int (32 : Int32)), (.long q1), (.int (12 : Int32)), (.ref b2), (.ref b2)])) t
    refine XS.lushr X24.here hx rfl (hb hby at_118) rfl ?_
    show Steps p.tables e below (T24.setTop (mkF m 119 #[.val (.long q0), .second, .val (.long q1), .second, .val (.long q2), .second, .val (.long q3), .second, .val (.int p4), .val (.int p5), .unset, .unset, .unset, .unset, .unset] [(.long ((q1.toUInt64 >>> ((32 : Int32) &&& 0x3f).toInt64.toUInt64).toInt64)), (.int (12 : Int32)), (.ref b2), (.ref b2)])) t
    refine XS.l2i X24.here hx rfl (hb hby at_119) rfl ?_
    show Steps p.tables e below (T24.setTop (mkF m 120 #[.val (.long q0), .second, .val (.long q1), .second, .val (.long q2), .second, .val (.long q3), .second, .val (.int p4), .val (.int p5), .unset, .unset, .unset, .unset, .unset] [(.int (((q1.toUInt64 >>> ((32 : Int32) &&& 0x3f).toInt64.toUInt64).toInt64).toInt32)), (.int (12 : Int32)), (.ref b2), (.ref b2)])) t
    refine XS.i2b X24.here hx rfl (hb hby at_120) rfl ?_
    show Steps p.tables e below (T24.setTop (mkF m 121 #[.val (.long q0), .second, .val (.long q1), .second, .val (.long q2), .second, .val (.long q3), .second, .val (.int p4), .val (.int p5), .unset, .unset, .unset, .unset, .unset] [(.int ((((q1.toUInt64 >>> ((32 : Int32) &&& 0x3f).toInt64.toUInt64).toInt64).toInt32).toInt8.toInt32)), (.int (12 : Int32)), (.ref b2), (.ref b2)])) t
    refine st26 _ ?_
    show Steps p.tables e below (T26.setTop (mkF m 122 #[.val (.long q0), .second, .val (.long q1), .second, .val (.long q2), .second, .val (.long q3), .second, .val (.int p4), .val (.int p5), .unset, .unset, .unset, .unset, .unset] [(.ref b2)])) t
    refine XS.dup X26.here hx rfl (hb hby at_122) rfl rfl ?_
    show Steps p.tables e below (T26.setTop (mkF m 123 #[.val (.long q0), .second, .val (.long q1), .second, .val (.long q2), .second, .val (.long q3), .second, .val (.int p4), .val (.int p5), .unset, .unset, .unset, .unset, .unset] [(.ref b2), (.ref b2)])) t
    refine XS.bipush X26.here hx rfl (hb hby at_123) ?_
    show Steps p.tables e below (T26.setTop (mkF m 125 #[.val (.long q0), .second, .val (.long q1), .second, .val (.long q2), .second, .val (.long q3), .second, .val (.int p4), .val (.int p5), .unset, .unset, .unset, .unset, .unset] [(.int (13 : Int32)), (.ref b2), (.ref b2)])) t
    refine XS.lloadN X26.here hx rfl (hb hby at_125) rfl ?_
    show Steps p.tables e below (T26.setTop (mkF m 126 #[.val (.long q0), .second, .val (.long q1), .second, .val (.long q2), .second, .val (.long q3), .second, .val (.int p4), .val (.int p5), .unset, .unset, .unset, .unset, .unset] [(.long q1), (.int (13 : Int32)), (.ref b2), (.ref b2)])) t
    refine XS.bipush X26.here hx rfl (hb hby at_126) ?_
    show Steps p.tables e below (T26.setTop (mkF m 128 #[.val (.long q0), .second, .val (.long q1), .second, .val (.long q2), .second, .val (.long q3), .second, .val (.int p4), .val (.int p5), .unset, .unset, .unset, .unset, .unset] [(.int (40 : Int32)), (.long q1), (.int (13 : Int32)), (.ref b2), (.ref b2)])) t
    refine XS.lushr X26.here hx rfl (hb hby at_128) rfl ?_
    show Steps p.tables e below (T26.setTop (mkF m 129 #[.val (.long q0), .second, .val (.long q1), .second, .val (.long q2), .second, .val (.long q3), .second, .val (.int p4), .val (.int p5), .unset, .unset, .unset, .unset, .unset] [(.long ((q1.toUInt64 >>> ((40 : Int32) &&& 0x3f).toInt64.toUInt64).toInt64)), (.int (13 : Int32)), (.ref b2), (.ref b2)])) t
    refine XS.l2i X26.here hx rfl (hb hby at_129) rfl ?_
    show Steps p.tables e below (T26.setTop (mkF m 130 #[.val (.long q0), .second, .val (.long q1), .second, .val (.long q2), .second, .val (.long q3), .second, .val (.int p4), .val (.int p5), .unset, .unset, .unset, .unset, .unset] [(.int (((q1.toUInt64 >>> ((40 : Int32) &&& 0x3f).toInt64.toUInt64).toInt64).toInt32)), (.int (13 : Int32)), (.ref b2), (.ref b2)])) t
    refine XS.i2b X26.here hx rfl (hb hby at_130) rfl ?_
    show Steps p.tables e below (T26.setTop (mkF m 131 #[.val (.long q0), .second, .val (.long q1), .second, .val (.long q2), .second, .val (.long q3), .second, .val (.int p4), .val (.int p5), .unset, .unset, .unset, .unset, .unset] [(.int ((((q1.toUInt64 >>> ((40 : Int32) &&& 0x3f).toInt64.toUInt64).toInt64).toInt32).toInt8.toInt32)), (.int (13 : Int32)), (.ref b2), (.ref b2)])) t
    refine st28 _ ?_
    show Steps p.tables e below (T28.setTop (mkF m 132 #[.val (.long q0), .second, .val (.long q1), .second, .val (.long q2), .second, .val (.long q3), .second, .val (.int p4), .val (.int p5), .unset, .unset, .unset, .unset, .unset] [(.ref b2)])) t
    refine XS.dup X28.here hx rfl (hb hby at_132) rfl rfl ?_
    show Steps p.tables e below (T28.setTop (mkF m 133 #[.val (.long q0), .second, .val (.long q1), .second, .val (.long q2), .second, .val (.long q3), .second, .val (.int p4), .val (.int p5), .unset, .unset, .unset, .unset, .unset] [(.ref b2), (.ref b2)])) t
    refine XS.bipush X28.here hx rfl (hb hby at_133) ?_
    show Steps p.tables e below (T28.setTop (mkF m 135 #[.val (.long q0), .second, .val (.long q1), .second, .val (.long q2), .second, .val (.long q3), .second, .val (.int p4), .val (.int p5), .unset, .unset, .unset, .unset, .unset] [(.int (14 : Int32)), (.ref b2), (.ref b2)])) t
    refine XS.lloadN X28.here hx rfl (hb hby at_135) rfl ?_
    show Steps p.tables e below (T28.setTop (mkF m 136 #[.val (.long q0), .second, .val (.long q1), .second, .val (.long q2), .second, .val (.long q3), .second, .val (.int p4), .val (.int p5), .unset, .unset, .unset, .unset, .unset] [(.long q1), (.int (14 : Int32)), (.ref b2), (.ref b2)])) t
    refine XS.bipush X28.here hx rfl (hb hby at_136) ?_
    show Steps p.tables e below (T28.setTop (mkF m 138 #[.val (.long q0), .second, .val (.long q1), .second, .val (.long q2), .second, .val (.long q3), .second, .val (.int p4), .val (.int p5), .unset, .unset, .unset, .unset, .unset] [(.int (48 : Int32)), (.long q1), (.int (14 : Int32)), (.ref b2), (.ref b2)])) t
    refine XS.lushr X28.here hx rfl (hb hby at_138) rfl ?_
    show Steps p.tables e below (T28.setTop (mkF m 139 #[.val (.long q0), .second, .val (.long q1), .second, .val (.long q2), .second, .val (.long q3), .second, .val (.int p4), .val (.int p5), .unset, .unset, .unset, .unset, .unset] [(.long ((q1.toUInt64 >>> ((48 : Int32) &&& 0x3f).toInt64.toUInt64).toInt64)), (.int (14 : Int32)), (.ref b2), (.ref b2)])) t
    refine XS.l2i X28.here hx rfl (hb hby at_139) rfl ?_
    show Steps p.tables e below (T28.setTop (mkF m 140 #[.val (.long q0), .second, .val (.long q1), .second, .val (.long q2), .second, .val (.long q3), .second, .val (.int p4), .val (.int p5), .unset, .unset, .unset, .unset, .unset] [(.int (((q1.toUInt64 >>> ((48 : Int32) &&& 0x3f).toInt64.toUInt64).toInt64).toInt32)), (.int (14 : Int32)), (.ref b2), (.ref b2)])) t
    refine XS.i2b X28.here hx rfl (hb hby at_140) rfl ?_
    show Steps p.tables e below (T28.setTop (mkF m 141 #[.val (.long q0), .second, .val (.long q1), .second, .val (.long q2), .second, .val (.long q3), .second, .val (.int p4), .val (.int p5), .unset, .unset, .unset, .unset, .unset] [(.int ((((q1.toUInt64 >>> ((48 : Int32) &&& 0x3f).toInt64.toUInt64).toInt64).toInt32).toInt8.toInt32)), (.int (14 : Int32)), (.ref b2), (.ref b2)])) t
    refine st30 _ ?_
    show Steps p.tables e below (T30.setTop (mkF m 142 #[.val (.long q0), .second, .val (.long q1), .second, .val (.long q2), .second, .val (.long q3), .second, .val (.int p4), .val (.int p5), .unset, .unset, .unset, .unset, .unset] [(.ref b2)])) t
    refine XS.dup X30.here hx rfl (hb hby at_142) rfl rfl ?_
    show Steps p.tables e below (T30.setTop (mkF m 143 #[.val (.long q0), .second, .val (.long q1), .second, .val (.long q2), .second, .val (.long q3), .second, .val (.int p4), .val (.int p5), .unset, .unset, .unset, .unset, .unset] [(.ref b2), (.ref b2)])) t
    refine XS.bipush X30.here hx rfl (hb hby at_143) ?_
    show Steps p.tables e below (T30.setTop (mkF m 145 #[.val (.long q0), .second, .val (.long q1), .second, .val (.long q2), .second, .val (.long q3), .second, .val (.int p4), .val (.int p5), .unset, .unset, .unset, .unset, .unset] [(.int (15 : Int32)), (.ref b2), (.ref b2)])) t
    refine XS.lloadN X30.here hx rfl (hb hby at_145) rfl ?_
    show Steps p.tables e below (T30.setTop (mkF m 146 #[.val (.long q0), .second, .val (.long q1), .second, .val (.long q2), .second, .val (.long q3), .second, .val (.int p4), .val (.int p5), .unset, .unset, .unset, .unset, .unset] [(.long q1), (.int (15 : Int32)), (.ref b2), (.ref b2)])) t
    refine XS.bipush X30.here hx rfl (hb hby at_146) ?_
    show Steps p.tables e below (T30.setTop (mkF m 148 #[.val (.long q0), .second, .val (.long q1), .second, .val (.long q2), .second, .val (.long q3), .second, .val (.int p4), .val (.int p5), .unset, .unset, .unset, .unset, .unset] [(.int (56 : Int32)), (.long q1), (.int (15 : Int32)), (.ref b2), (.ref b2)])) t
    refine XS.lushr X30.here hx rfl (hb hby at_148) rfl ?_
    show Steps p.tables e below (T30.setTop (mkF m 149 #[.val (.long q0), .second, .val (.long q1), .second, .val (.long q2), .second, .val (.long q3), .second, .val (.int p4), .val (.int p5), .unset, .unset, .unset, .unset, .unset] [(.long ((q1.toUInt64 >>> ((56 : Int32) &&& 0x3f).toInt64.toUInt64).toInt64)), (.int (15 : Int32)), (.ref b2), (.ref b2)])) t
    refine XS.l2i X30.here hx rfl (hb hby at_149) rfl ?_
    show Steps p.tables e below (T30.setTop (mkF m 150 #[.val (.long q0), .second, .val (.long q1), .second, .val (.long q2), .second, .val (.long q3), .second, .val (.int p4), .val (.int p5), .unset, .unset, .unset, .unset, .unset] [(.int (((q1.toUInt64 >>> ((56 : Int32) &&& 0x3f).toInt64.toUInt64).toInt64).toInt32)), (.int (15 : Int32)), (.ref b2), (.ref b2)])) t
    refine XS.i2b X30.here hx rfl (hb hby at_150) rfl ?_
    show Steps p.tables e below (T30.setTop (mkF m 151 #[.val (.long q0), .second, .val (.long q1), .second, .val (.long q2), .second, .val (.long q3), .second, .val (.int p4), .val (.int p5), .unset, .unset, .unset, .unset, .unset] [(.int ((((q1.toUInt64 >>> ((56 : Int32) &&& 0x3f).toInt64.toUInt64).toInt64).toInt32).toInt8.toInt32)), (.int (15 : Int32)), (.ref b2), (.ref b2)])) t
    refine st32 _ ?_
    show Steps p.tables e below (T32.setTop (mkF m 152 #[.val (.long q0), .second, .val (.long q1), .second, .val (.long q2), .second, .val (.long q3), .second, .val (.int p4), .val (.int p5), .unset, .unset, .unset, .unset, .unset] [(.ref b2)])) t
    refine XS.dup X32.here hx rfl (hb hby at_152) rfl rfl ?_
    show Steps p.tables e below (T32.setTop (mkF m 153 #[.val (.long q0), .second, .val (.long q1), .second, .val (.long q2), .second, .val (.long q3), .second, .val (.int p4), .val (.int p5), .unset, .unset, .unset, .unset, .unset] [(.ref b2), (.ref b2)])) t
    refine XS.bipush X32.here hx rfl (hb hby at_153) ?_
    show Steps p.tables e below (T32.setTop (mkF m 155 #[.val (.long q0), .second, .val (.long q1), .second, .val (.long q2), .second, .val (.long q3), .second, .val (.int p4), .val (.int p5), .unset, .unset, .unset, .unset, .unset] [(.int (16 : Int32)), (.ref b2), (.ref b2)])) t
    refine XS.lload X32.here hx rfl (hb hby at_155) rfl ?_
    show Steps p.tables e below (T32.setTop (mkF m 157 #[.val (.long q0), .second, .val (.long q1), .second, .val (.long q2), .second, .val (.long q3), .second, .val (.int p4), .val (.int p5), .unset, .unset, .unset, .unset, .unset] [(.long q2), (.int (16 : Int32)), (.ref b2), (.ref b2)])) t
    refine XS.l2i X32.here hx rfl (hb hby at_157) rfl ?_
    show Steps p.tables e below (T32.setTop (mkF m 158 #[.val (.long q0), .second, .val (.long q1), .second, .val (.long q2), .second, .val (.long q3), .second, .val (.int p4), .val (.int p5), .unset, .unset, .unset, .unset, .unset] [(.int (q2.toInt32)), (.int (16 : Int32)), (.ref b2), (.ref b2)])) t
    refine XS.i2b X32.here hx rfl (hb hby at_158) rfl ?_
    show Steps p.tables e below (T32.setTop (mkF m 159 #[.val (.long q0), .second, .val (.long q1), .second, .val (.long q2), .second, .val (.long q3), .second, .val (.int p4), .val (.int p5), .unset, .unset, .unset, .unset, .unset] [(.int ((q2.toInt32).toInt8.toInt32)), (.int (16 : Int32)), (.ref b2), (.ref b2)])) t
    refine st34 _ ?_
    show Steps p.tables e below (T34.setTop (mkF m 160 #[.val (.long q0), .second, .val (.long q1), .second, .val (.long q2), .second, .val (.long q3), .second, .val (.int p4), .val (.int p5), .unset, .unset, .unset, .unset, .unset] [(.ref b2)])) t
    refine XS.dup X34.here hx rfl (hb hby at_160) rfl rfl ?_
    show Steps p.tables e below (T34.setTop (mkF m 161 #[.val (.long q0), .second, .val (.long q1), .second, .val (.long q2), .second, .val (.long q3), .second, .val (.int p4), .val (.int p5), .unset, .unset, .unset, .unset, .unset] [(.ref b2), (.ref b2)])) t
    refine XS.bipush X34.here hx rfl (hb hby at_161) ?_
    show Steps p.tables e below (T34.setTop (mkF m 163 #[.val (.long q0), .second, .val (.long q1), .second, .val (.long q2), .second, .val (.long q3), .second, .val (.int p4), .val (.int p5), .unset, .unset, .unset, .unset, .unset] [(.int (17 : Int32)), (.ref b2), (.ref b2)])) t
    refine XS.lload X34.here hx rfl (hb hby at_163) rfl ?_
    show Steps p.tables e below (T34.setTop (mkF m 165 #[.val (.long q0), .second, .val (.long q1), .second, .val (.long q2), .second, .val (.long q3), .second, .val (.int p4), .val (.int p5), .unset, .unset, .unset, .unset, .unset] [(.long q2), (.int (17 : Int32)), (.ref b2), (.ref b2)])) t
    refine XS.bipush X34.here hx rfl (hb hby at_165) ?_
    show Steps p.tables e below (T34.setTop (mkF m 167 #[.val (.long q0), .second, .val (.long q1), .second, .val (.long q2), .second, .val (.long q3), .second, .val (.int p4), .val (.int p5), .unset, .unset, .unset, .unset, .unset] [(.int (8 : Int32)), (.long q2), (.int (17 : Int32)), (.ref b2), (.ref b2)])) t
    refine XS.lushr X34.here hx rfl (hb hby at_167) rfl ?_
    show Steps p.tables e below (T34.setTop (mkF m 168 #[.val (.long q0), .second, .val (.long q1), .second, .val (.long q2), .second, .val (.long q3), .second, .val (.int p4), .val (.int p5), .unset, .unset, .unset, .unset, .unset] [(.long ((q2.toUInt64 >>> ((8 : Int32) &&& 0x3f).toInt64.toUInt64).toInt64)), (.int (17 : Int32)), (.ref b2), (.ref b2)])) t
    refine XS.l2i X34.here hx rfl (hb hby at_168) rfl ?_
    show Steps p.tables e below (T34.setTop (mkF m 169 #[.val (.long q0), .second, .val (.long q1), .second, .val (.long q2), .second, .val (.long q3), .second, .val (.int p4), .val (.int p5), .unset, .unset, .unset, .unset, .unset] [(.int (((q2.toUInt64 >>> ((8 : Int32) &&& 0x3f).toInt64.toUInt64).toInt64).toInt32)), (.int (17 : Int32)), (.ref b2), (.ref b2)])) t
    refine XS.i2b X34.here hx rfl (hb hby at_169) rfl ?_
    show Steps p.tables e below (T34.setTop (mkF m 170 #[.val (.long q0), .second, .val (.long q1), .second, .val (.long q2), .second, .val (.long q3), .second, .val (.int p4), .val (.int p5), .unset, .unset, .unset, .unset, .unset] [(.int ((((q2.toUInt64 >>> ((8 : Int32) &&& 0x3f).toInt64.toUInt64).toInt64).toInt32).toInt8.toInt32)), (.int (17 : Int32)), (.ref b2), (.ref b2)])) t
    refine st36 _ ?_
    show Steps p.tables e below (T36.setTop (mkF m 171 #[.val (.long q0), .second, .val (.long q1), .second, .val (.long q2), .second, .val (.long q3), .second, .val (.int p4), .val (.int p5), .unset, .unset, .unset, .unset, .unset] [(.ref b2)])) t
    refine XS.dup X36.here hx rfl (hb hby at_171) rfl rfl ?_
    show Steps p.tables e below (T36.setTop (mkF m 172 #[.val (.long q0), .second, .val (.long q1), .second, .val (.long q2), .second, .val (.long q3), .second, .val (.int p4), .val (.int p5), .unset, .unset, .unset, .unset, .unset] [(.ref b2), (.ref b2)])) t
    refine XS.bipush X36.here hx rfl (hb hby at_172) ?_
    show Steps p.tables e below (T36.setTop (mkF m 174 #[.val (.long q0), .second, .val (.long q1), .second, .val (.long q2), .second, .val (.long q3), .second, .val (.int p4), .val (.int p5), .unset, .unset, .unset, .unset, .unset] [(.int (18 : Int32)), (.ref b2), (.ref b2)])) t
    refine XS.lload X36.here hx rfl (hb hby at_174) rfl ?_
    show Steps p.tables e below (T36.setTop (mkF m 176 #[.val (.long q0), .second, .val (.long q1), .second, .val (.long q2), .second, .val (.long q3), .second, .val (.int p4), .val (.int p5), .unset, .unset, .unset, .unset, .unset] [(.long q2), (.int (18 : Int32)), (.ref b2), (.ref b2)])) t
    refine XS.bipush X36.here hx rfl (hb hby at_176) ?_
    show Steps p.tables e below (T36.setTop (mkF m 178 #[.val (.long q0), .second, .val (.long q1), .second, .val (.long q2), .second, .val (.long q3), .second, .val (.int p4), .val (.int p5), .unset, .unset, .unset, .unset, .unset] [(.int (16 : Int32)), (.long q2), (.int (18 : Int32)), (.ref b2), (.ref b2)])) t
    refine XS.lushr X36.here hx rfl (hb hby at_178) rfl ?_
    show Steps p.tables e below (T36.setTop (mkF m 179 #[.val (.long q0), .second, .val (.long q1), .second, .val (.long q2), .second, .val (.long q3), .second, .val (.int p4), .val (.int p5), .unset, .unset, .unset, .unset, .unset] [(.long ((q2.toUInt64 >>> ((16 : Int32) &&& 0x3f).toInt64.toUInt64).toInt64)), (.int (18 : Int32)), (.ref b2), (.ref b2)])) t
    refine XS.l2i X36.here hx rfl (hb hby at_179) rfl ?_
    show Steps p.tables e below (T36.setTop (mkF m 180 #[.val (.long q0), .second, .val (.long q1), .second, .val (.long q2), .second, .val (.long q3), .second, .val (.int p4), .val (.int p5), .unset, .unset, .unset, .unset, .unset] [(.int (((q2.toUInt64 >>> ((16 : Int32) &&& 0x3f).toInt64.toUInt64).toInt64).toInt32)), (.int (18 : Int32)), (.ref b2), (.ref b2)])) t
    refine XS.i2b X36.here hx rfl (hb hby at_180) rfl ?_
    show Steps p.tables e below (T36.setTop (mkF m 181 #[.val (.long q0), .second, .val (.long q1), .second, .val (.long q2), .second, .val (.long q3), .second, .val (.int p4), .val (.int p5), .unset, .unset, .unset, .unset, .unset] [(.int ((((q2.toUInt64 >>> ((16 : Int32) &&& 0x3f).toInt64.toUInt64).toInt64).toInt32).toInt8.toInt32)), (.int (18 : Int32)), (.ref b2), (.ref b2)])) t
    refine st38 _ ?_
    show Steps p.tables e below (T38.setTop (mkF m 182 #[.val (.long q0), .second, .val (.long q1), .second, .val (.long q2), .second, .val (.long q3), .second, .val (.int p4), .val (.int p5), .unset, .unset, .unset, .unset, .unset] [(.ref b2)])) t
    refine XS.dup X38.here hx rfl (hb hby at_182) rfl rfl ?_
    show Steps p.tables e below (T38.setTop (mkF m 183 #[.val (.long q0), .second, .val (.long q1), .second, .val (.long q2), .second, .val (.long q3), .second, .val (.int p4), .val (.int p5), .unset, .unset, .unset, .unset, .unset] [(.ref b2), (.ref b2)])) t
    refine XS.bipush X38.here hx rfl (hb hby at_183) ?_
    show Steps p.tables e below (T38.setTop (mkF m 185 #[.val (.long q0), .second, .val (.long q1), .second, .val (.long q2), .second, .val (.long q3), .second, .val (.int p4), .val (.int p5), .unset, .unset, .unset, .unset, .unset] [(.int (19 : Int32)), (.ref b2), (.ref b2)])) t
    refine XS.lload X38.here hx rfl (hb hby at_185) rfl ?_
    show Steps p.tables e below (T38.setTop (mkF m 187 #[.val (.long q0), .second, .val (.long q1), .second, .val (.long q2), .second, .val (.long q3), .second, .val (.int p4), .val (.int p5), .unset, .unset, .unset, .unset, .unset] [(.long q2), (.int (19 : Int32)), (.ref b2), (.ref b2)])) t
    refine XS.bipush X38.here hx rfl (hb hby at_187) ?_
    show Steps p.tables e below (T38.setTop (mkF m 189 #[.val (.long q0), .second, .val (.long q1), .second, .val (.long q2), .second, .val (.long q3), .second, .val (.int p4), .val (.int p5), .unset, .unset, .unset, .unset, .unset] [(.int (24 : Int32)), (.long q2), (.int (19 : Int32)), (.ref b2), (.ref b2)])) t
    refine XS.lushr X38.here hx rfl (hb hby at_189) rfl ?_
    show Steps p.tables e below (T38.setTop (mkF m 190 #[.val (.long q0), .second, .val (.long q1), .second, .val (.long q2), .second, .val (.long q3), .second, .val (.int p4), .val (.int p5), .unset, .unset, .unset, .unset, .unset] [(.long ((q2.toUInt64 >>> ((24 : Int32) &&& 0x3f).toInt64.toUInt64).toInt64)), (.int (19 : Int32)), (.ref b2), (.ref b2)])) t
    refine XS.l2i X38.here hx rfl (hb hby at_190) rfl ?_
    show Steps p.tables e below (T38.setTop (mkF m 191 #[.val (.long q0), .second, .val (.long q1), .second, .val (.long q2), .second, .val (.long q3), .second, .val (.int p4), .val (.int p5), .unset, .unset, .unset, .unset, .unset] [(.int (((q2.toUInt64 >>> ((24 : Int32) &&& 0x3f).toInt64.toUInt64).toInt64).toInt32)), (.int (19 : Int32)), (.ref b2), (.ref b2)])) t
    refine XS.i2b X38.here hx rfl (hb hby at_191) rfl ?_
    show Steps p.tables e below (T38.setTop (mkF m 192 #[.val (.long q0), .second, .val (.long q1), .second, .val (.long q2), .second, .val (.long q3), .second, .val (.int p4), .val (.int p5), .unset, .unset, .unset, .unset, .unset] [(.int ((((q2.toUInt64 >>> ((24 : Int32) &&& 0x3f).toInt64.toUInt64).toInt64).toInt32).toInt8.toInt32)), (.int (19 : Int32)), (.ref b2), (.ref b2)])) t
    refine st40 _ ?_
    show Steps p.tables e below (T40.setTop (mkF m 193 #[.val (.long q0), .second, .val (.long q1), .second, .val (.long q2), .second, .val (.long q3), .second, .val (.int p4), .val (.int p5), .unset, .unset, .unset, .unset, .unset] [(.ref b2)])) t
    refine XS.dup X40.here hx rfl (hb hby at_193) rfl rfl ?_
    show Steps p.tables e below (T40.setTop (mkF m 194 #[.val (.long q0), .second, .val (.long q1), .second, .val (.long q2), .second, .val (.long q3), .second, .val (.int p4), .val (.int p5), .unset, .unset, .unset, .unset, .unset] [(.ref b2), (.ref b2)])) t
    refine XS.bipush X40.here hx rfl (hb hby at_194) ?_
    show Steps p.tables e below (T40.setTop (mkF m 196 #[.val (.long q0), .second, .val (.long q1), .second, .val (.long q2), .second, .val (.long q3), .second, .val (.int p4), .val (.int p5), .unset, .unset, .unset, .unset, .unset] [(.int (20 : Int32)), (.ref b2), (.ref b2)])) t
    refine XS.lload X40.here hx rfl (hb hby at_196) rfl ?_
    show Steps p.tables e below (T40.setTop (mkF m 198 #[.val (.long q0), .second, .val (.long q1), .second, .val (.long q2), .second, .val (.long q3), .second, .val (.int p4), .val (.int p5), .unset, .unset, .unset, .unset, .unset] [(.long q2), (.int (20 : Int32)), (.ref b2), (.ref b2)])) t
    refine XS.bipush X40.here hx rfl (hb hby at_198) ?_
    show Steps p.tables e below (T40.setTop (mkF m 200 #[.val (.long q0), .second, .val (.long q1), .second, .val (.long q2), .second, .val (.long q3), .second, .val (.int p4), .val (.int p5), .unset, .unset, .unset, .unset, .unset] [(.int (32 : Int32)), (.long q2), (.int (20 : Int32)), (.ref b2), (.ref b2)])) t
    refine XS.lushr X40.here hx rfl (hb hby at_200) rfl ?_
    show Steps p.tables e below (T40.setTop (mkF m 201 #[.val (.long q0), .second, .val (.long q1), .second, .val (.long q2), .second, .val (.long q3), .second, .val (.int p4), .val (.int p5), .unset, .unset, .unset, .unset, .unset] [(.long ((q2.toUInt64 >>> ((32 : Int32) &&& 0x3f).toInt64.toUInt64).toInt64)), (.int (20 : Int32)), (.ref b2), (.ref b2)])) t
    refine XS.l2i X40.here hx rfl (hb hby at_201) rfl ?_
    show Steps p.tables e below (T40.setTop (mkF m 202 #[.val (.long q0), .second, .val (.long q1), .second, .val (.long q2), .second, .val (.long q3), .second, .val (.int p4), .val (.int p5), .unset, .unset, .unset, .unset, .unset] [(.int (((q2.toUInt64 >>> ((32 : Int32) &&& 0x3f).toInt64.toUInt64).toInt64).toInt32)), (.int (20 : Int32)), (.ref b2), (.ref b2)])) t
    refine XS.i2b X40.here hx rfl (hb hby at_202) rfl ?_
    show Steps p.tables e below (T40.setTop (mkF m 203 #[.val (.long q0), .second, .val (.long q1), .second, .val (.long q2), .second, .val (.long q3), .second, .val (.int p4), .val (.int p5), .unset, .unset, .unset, .unset, .unset] [(.int ((((q2.toUInt64 >>> ((32 : Int32) &&& 0x3f).toInt64.toUInt64).toInt64).toInt32).toInt8.toInt32)), (.int (20 : Int32)), (.ref b2), (.ref b2)])) t
    refine st42 _ ?_
    show Steps p.tables e below (T42.setTop (mkF m 204 #[.val (.long q0), .second, .val (.long q1), .second, .val (.long q2), .second, .val (.long q3), .second, .val (.int p4), .val (.int p5), .unset, .unset, .unset, .unset, .unset] [(.ref b2)])) t
    refine XS.dup X42.here hx rfl (hb hby at_204) rfl rfl ?_
    show Steps p.tables e below (T42.setTop (mkF m 205 #[.val (.long q0), .second, .val (.long q1), .second, .val (.long q2), .second, .val (.long q3), .second, .val (.int p4), .val (.int p5), .unset, .unset, .unset, .unset, .unset] [(.ref b2), (.ref b2)])) t
    refine XS.bipush X42.here hx rfl (hb hby at_205) ?_
    show Steps p.tables e below (T42.setTop (mkF m 207 #[.val (.long q0), .second, .val (.long q1), .second, .val (.long q2), .second, .val (.long q3), .second, .val (.int p4), .val (.int p5), .unset, .unset, .unset, .unset, .unset] [(.int (21 : Int32)), (.ref b2), (.ref b2)])) t
    refine XS.lload X42.here hx rfl (hb hby at_207) rfl ?_
    show Steps p.tables e below (T42.setTop (mkF m 209 #[.val (.long q0), .second, .val (.long q1), .second, .val (.long q2), .second, .val (.long q3), .second, .val (.int p4), .val (.int p5), .unset, .unset, .unset, .unset, .unset] [(.long q2), (.int (21 : Int32)), (.ref b2), (.ref b2)])) t
    refine XS.bipush X42.here hx rfl (hb hby at_209) ?_
    show Steps p.tables e below (T42.setTop (mkF m 211 #[.val (.long q0), .second, .val (.long q1), .second, .val (.long q2), .second, .val (.long q3), .second, .val (.int p4), .val (.int p5), .unset, .unset, .unset, .unset, .unset] [(.int (40 : Int32)), (.long q2), (.int (21 : Int32)), (.ref b2), (.ref b2)])) t
    refine XS.lushr X42.here hx rfl (hb hby at_211) rfl ?_
    show Steps p.tables e below (T42.setTop (mkF m 212 #[.val (.long q0), .second, .val (.long q1), .second, .val (.long q2), .second, .val (.long q3), .second, .val (.int p4), .val (.int p5), .unset, .unset, .unset, .unset, .unset] [(.long ((q2.toUInt64 >>> ((40 : Int32) &&& 0x3f).toInt64.toUInt64).toInt64)), (.int (21 : Int32)), (.ref b2), (.ref b2)])) t
    refine XS.l2i X42.here hx rfl (hb hby at_212) rfl ?_
    show Steps p.tables e below (T42.setTop (mkF m 213 #[.val (.long q0), .second, .val (.long q1), .second, .val (.long q2), .second, .val (.long q3), .second, .val (.int p4), .val (.int p5), .unset, .unset, .unset, .unset, .unset] [(.int (((q2.toUInt64 >>> ((40 : Int32) &&& 0x3f).toInt64.toUInt64).toInt64).toInt32)), (.int (21 : Int32)), (.ref b2), (.ref b2)])) t
    refine XS.i2b X42.here hx rfl (hb hby at_213) rfl ?_
    show Steps p.tables e below (T42.setTop (mkF m 214 #[.val (.long q0), .second, .val (.long q1), .second, .val (.long q2), .second, .val (.long q3), .second, .val (.int p4), .val (.int p5), .unset, .unset, .unset, .unset, .unset] [(.int ((((q2.toUInt64 >>> ((40 : Int32) &&& 0x3f).toInt64.toUInt64).toInt64).toInt32).toInt8.toInt32)), (.int (21 : Int32)), (.ref b2), (.ref b2)])) t
    refine st44 _ ?_
    show Steps p.tables e below (T44.setTop (mkF m 215 #[.val (.long q0), .second, .val (.long q1), .second, .val (.long q2), .second, .val (.long q3), .second, .val (.int p4), .val (.int p5), .unset, .unset, .unset, .unset, .unset] [(.ref b2)])) t
    refine XS.dup X44.here hx rfl (hb hby at_215) rfl rfl ?_
    show Steps p.tables e below (T44.setTop (mkF m 216 #[.val (.long q0), .second, .val (.long q1), .second, .val (.long q2), .second, .val (.long q3), .second, .val (.int p4), .val (.int p5), .unset, .unset, .unset, .unset, .unset] [(.ref b2), (.ref b2)])) t
    refine XS.bipush X44.here hx rfl (hb hby at_216) ?_
    show Steps p.tables e below (T44.setTop (mkF m 218 #[.val (.long q0), .second, .val (.long q1), .second, .val (.long q2), .second, .val (.long q3), .second, .val (.int p4), .val (.int p5), .unset, .unset, .unset, .unset, .unset] [(.int (22 : Int32)), (.ref b2), (.ref b2)])) t
    refine XS.lload X44.here hx rfl (hb hby at_218) rfl ?_
    show Steps p.tables e below (T44.setTop (mkF m 220 #[.val (.long q0), .second, .val (.long q1), .second, .val (.long q2), .second, .val (.long q3), .second, .val (.int p4), .val (.int p5), .unset, .unset, .unset, .unset, .unset] [(.long q2), (.int (22 : Int32)), (.ref b2), (.ref b2)])) t
    refine XS.bipush X44.here hx rfl (hb hby at_220) ?_
    show Steps p.tables e below (T44.setTop (mkF m 222 #[.val (.long q0), .second, .val (.long q1), .second, .val (.long q2), .second, .val (.long q3), .second, .val (.int p4), .val (.int p5), .unset, .unset, .unset, .unset, .unset] [(.int (48 : Int32)), (.long q2), (.int (22 : Int32)), (.ref b2), (.ref b2)])) t
    refine XS.lushr X44.here hx rfl (hb hby at_222) rfl ?_
    show Steps p.tables e below (T44.setTop (mkF m 223 #[.val (.long q0), .second, .val (.long q1), .second, .val (.long q2), .second, .val (.long q3), .second, .val (.int p4), .val (.int p5), .unset, .unset, .unset, .unset, .unset] [(.long ((q2.toUInt64 >>> ((48 : Int32) &&& 0x3f).toInt64.toUInt64).toInt64)), (.int (22 : Int32)), (.ref b2), (.ref b2)])) t
    refine XS.l2i X44.here hx rfl (hb hby at_223) rfl ?_
    show Steps p.tables e below (T44.setTop (mkF m 224 #[.val (.long q0), .second, .val (.long q1), .second, .val (.long q2), .second, .val (.long q3), .second, .val (.int p4), .val (.int p5), .unset, .unset, .unset, .unset, .unset] [(.int (((q2.toUInt64 >>> ((48 : Int32) &&& 0x3f).toInt64.toUInt64).toInt64).toInt32)), (.int (22 : Int32)), (.ref b2), (.ref b2)])) t
    refine XS.i2b X44.here hx rfl (hb hby at_224) rfl ?_
    show Steps p.tables e below (T44.setTop (mkF m 225 #[.val (.long q0), .second, .val (.long q1), .second, .val (.long q2), .second, .val (.long q3), .second, .val (.int p4), .val (.int p5), .unset, .unset, .unset, .unset, .unset] [(.int ((((q2.toUInt64 >>> ((48 : Int32) &&& 0x3f).toInt64.toUInt64).toInt64).toInt32).toInt8.toInt32)), (.int (22 : Int32)), (.ref b2), (.ref b2)])) t
    refine st46 _ ?_
    show Steps p.tables e below (T46.setTop (mkF m 226 #[.val (.long q0), .second, .val (.long q1), .second, .val (.long q2), .second, .val (.long q3), .second, .val (.int p4), .val (.int p5), .unset, .unset, .unset, .unset, .unset] [(.ref b2)])) t
    refine XS.dup X46.here hx rfl (hb hby at_226) rfl rfl ?_
    show Steps p.tables e below (T46.setTop (mkF m 227 #[.val (.long q0), .second, .val (.long q1), .second, .val (.long q2), .second, .val (.long q3), .second, .val (.int p4), .val (.int p5), .unset, .unset, .unset, .unset, .unset] [(.ref b2), (.ref b2)])) t
    refine XS.bipush X46.here hx rfl (hb hby at_227) ?_
    show Steps p.tables e below (T46.setTop (mkF m 229 #[.val (.long q0), .second, .val (.long q1), .second, .val (.long q2), .second, .val (.long q3), .second, .val (.int p4), .val (.int p5), .unset, .unset, .unset, .unset, .unset] [(.int (23 : Int32)), (.ref b2), (.ref b2)])) t
    refine XS.lload X46.here hx rfl (hb hby at_229) rfl ?_
    show Steps p.tables e below (T46.setTop (mkF m 231 #[.val (.long q0), .second, .val (.long q1), .second, .val (.long q2), .second, .val (.long q3), .second, .val (.int p4), .val (.int p5), .unset, .unset, .unset, .unset, .unset] [(.long q2), (.int (23 : Int32)), (.ref b2), (.ref b2)])) t
    refine XS.bipush X46.here hx rfl (hb hby at_231) ?_
    show Steps p.tables e below (T46.setTop (mkF m 233 #[.val (.long q0), .second, .val (.long q1), .second, .val (.long q2), .second, .val (.long q3), .second, .val (.int p4), .val (.int p5), .unset, .unset, .unset, .unset, .unset] [(.int (56 : Int32)), (.long q2), (.int (23 : Int32)), (.ref b2), (.ref b2)])) t
    refine XS.lushr X46.here hx rfl (hb hby at_233) rfl ?_
    show Steps p.tables e below (T46.setTop (mkF m 234 #[.val (.long q0), .second, .val (.long q1), .second, .val (.long q2), .second, .val (.long q3), .second, .val (.int p4), .val (.int p5), .unset, .unset, .unset, .unset, .unset] [(.long ((q2.toUInt64 >>> ((56 : Int32) &&& 0x3f).toInt64.toUInt64).toInt64)), (.int (23 : Int32)), (.ref b2), (.ref b2)])) t
    refine XS.l2i X46.here hx rfl (hb hby at_234) rfl ?_
    show Steps p.tables e below (T46.setTop (mkF m 235 #[.val (.long q0), .second, .val (.long q1), .second, .val (.long q2), .second, .val (.long q3), .second, .val (.int p4), .val (.int p5), .unset, .unset, .unset, .unset, .unset] [(.int (((q2.toUInt64 >>> ((56 : Int32) &&& 0x3f).toInt64.toUInt64).toInt64).toInt32)), (.int (23 : Int32)), (.ref b2), (.ref b2)])) t
    refine XS.i2b X46.here hx rfl (hb hby at_235) rfl ?_
    show Steps p.tables e below (T46.setTop (mkF m 236 #[.val (.long q0), .second, .val (.long q1), .second, .val (.long q2), .second, .val (.long q3), .second, .val (.int p4), .val (.int p5), .unset, .unset, .unset, .unset, .unset] [(.int ((((q2.toUInt64 >>> ((56 : Int32) &&& 0x3f).toInt64.toUInt64).toInt64).toInt32).toInt8.toInt32)), (.int (23 : Int32)), (.ref b2), (.ref b2)])) t
    refine st48 _ ?_
    show Steps p.tables e below (T48.setTop (mkF m 237 #[.val (.long q0), .second, .val (.long q1), .second, .val (.long q2), .second, .val (.long q3), .second, .val (.int p4), .val (.int p5), .unset, .unset, .unset, .unset, .unset] [(.ref b2)])) t
    refine XS.dup X48.here hx rfl (hb hby at_237) rfl rfl ?_
    show Steps p.tables e below (T48.setTop (mkF m 238 #[.val (.long q0), .second, .val (.long q1), .second, .val (.long q2), .second, .val (.long q3), .second, .val (.int p4), .val (.int p5), .unset, .unset, .unset, .unset, .unset] [(.ref b2), (.ref b2)])) t
    refine XS.bipush X48.here hx rfl (hb hby at_238) ?_
    show Steps p.tables e below (T48.setTop (mkF m 240 #[.val (.long q0), .second, .val (.long q1), .second, .val (.long q2), .second, .val (.long q3), .second, .val (.int p4), .val (.int p5), .unset, .unset, .unset, .unset, .unset] [(.int (24 : Int32)), (.ref b2), (.ref b2)])) t
    refine XS.lload X48.here hx rfl (hb hby at_240) rfl ?_
    show Steps p.tables e below (T48.setTop (mkF m 242 #[.val (.long q0), .second, .val (.long q1), .second, .val (.long q2), .second, .val (.long q3), .second, .val (.int p4), .val (.int p5), .unset, .unset, .unset, .unset, .unset] [(.long q3), (.int (24 : Int32)), (.ref b2), (.ref b2)])) t
    refine XS.l2i X48.here hx rfl (hb hby at_242) rfl ?_
    show Steps p.tables e below (T48.setTop (mkF m 243 #[.val (.long q0), .second, .val (.long q1), .second, .val (.long q2), .second, .val (.long q3), .second, .val (.int p4), .val (.int p5), .unset, .unset, .unset, .unset, .unset] [(.int (q3.toInt32)), (.int (24 : Int32)), (.ref b2), (.ref b2)])) t
    refine XS.i2b X48.here hx rfl (hb hby at_243) rfl ?_
    show Steps p.tables e below (T48.setTop (mkF m 244 #[.val (.long q0), .second, .val (.long q1), .second, .val (.long q2), .second, .val (.long q3), .second, .val (.int p4), .val (.int p5), .unset, .unset, .unset, .unset, .unset] [(.int ((q3.toInt32).toInt8.toInt32)), (.int (24 : Int32)), (.ref b2), (.ref b2)])) t
    refine st50 _ ?_
    show Steps p.tables e below (T50.setTop (mkF m 245 #[.val (.long q0), .second, .val (.long q1), .second, .val (.long q2), .second, .val (.long q3), .second, .val (.int p4), .val (.int p5), .unset, .unset, .unset, .unset, .unset] [(.ref b2)])) t
    refine XS.dup X50.here hx rfl (hb hby at_245) rfl rfl ?_
    show Steps p.tables e below (T50.setTop (mkF m 246 #[.val (.long q0), .second, .val (.long q1), .second, .val (.long q2), .second, .val (.long q3), .second, .val (.int p4), .val (.int p5), .unset, .unset, .unset, .unset, .unset] [(.ref b2), (.ref b2)])) t
    refine XS.bipush X50.here hx rfl (hb hby at_246) ?_
    show Steps p.tables e below (T50.setTop (mkF m 248 #[.val (.long q0), .second, .val (.long q1), .second, .val (.long q2), .second, .val (.long q3), .second, .val (.int p4), .val (.int p5), .unset, .unset, .unset, .unset, .unset] [(.int (25 : Int32)), (.ref b2), (.ref b2)])) t
    refine XS.lload X50.here hx rfl (hb hby at_248) rfl ?_
    show Steps p.tables e below (T50.setTop (mkF m 250 #[.val (.long q0), .second, .val (.long q1), .second, .val (.long q2), .second, .val (.long q3), .second, .val (.int p4), .val (.int p5), .unset, .unset, .unset, .unset, .unset] [(.long q3), (.int (25 : Int32)), (.ref b2), (.ref b2)])) t
    refine XS.bipush X50.here hx rfl (hb hby at_250) ?_
    show Steps p.tables e below (T50.setTop (mkF m 252 #[.val (.long q0), .second, .val (.long q1), .second, .val (.long q2), .second, .val (.long q3), .second, .val (.int p4), .val (.int p5), .unset, .unset, .unset, .unset, .unset] [(.int (8 : Int32)), (.long q3), (.int (25 : Int32)), (.ref b2), (.ref b2)])) t
    refine XS.lushr X50.here hx rfl (hb hby at_252) rfl ?_
    show Steps p.tables e below (T50.setTop (mkF m 253 #[.val (.long q0), .second, .val (.long q1), .second, .val (.long q2), .second, .val (.long q3), .second, .val (.int p4), .val (.int p5), .unset, .unset, .unset, .unset, .unset] [(.long ((q3.toUInt64 >>> ((8 : Int32) &&& 0x3f).toInt64.toUInt64).toInt64)), (.int (25 : Int32)), (.ref b2), (.ref b2)])) t
    refine XS.l2i X50.here hx rfl (hb hby at_253) rfl ?_
    show Steps p.tables e below (T50.setTop (mkF m 254 #[.val (.long q0), .second, .val (.long q1), .second, .val (.long q2), .second, .val (.long q3), .second, .val (.int p4), .val (.int p5), .unset, .unset, .unset, .unset, .unset] [(.int (((q3.toUInt64 >>> ((8 : Int32) &&& 0x3f).toInt64.toUInt64).toInt64).toInt32)), (.int (25 : Int32)), (.ref b2), (.ref b2)])) t
    refine XS.i2b X50.here hx rfl (hb hby at_254) rfl ?_
    show Steps p.tables e below (T50.setTop (mkF m 255 #[.val (.long q0), .second, .val (.long q1), .second, .val (.long q2), .second, .val (.long q3), .second, .val (.int p4), .val (.int p5), .unset, .unset, .unset, .unset, .unset] [(.int ((((q3.toUInt64 >>> ((8 : Int32) &&& 0x3f).toInt64.toUInt64).toInt64).toInt32).toInt8.toInt32)), (.int (25 : Int32)), (.ref b2), (.ref b2)])) t
    refine st52 _ ?_
    show Steps p.tables e below (T52.setTop (mkF m 256 #[.val (.long q0), .second, .val (.long q1), .second, .val (.long q2), .second, .val (.long q3), .second, .val (.int p4), .val (.int p5), .unset, .unset, .unset, .unset, .unset] [(.ref b2)])) t
    refine XS.dup X52.here hx rfl (hb hby at_256) rfl rfl ?_
    show Steps p.tables e below (T52.setTop (mkF m 257 #[.val (.long q0), .second, .val (.long q1), .second, .val (.long q2), .second, .val (.long q3), .second, .val (.int p4), .val (.int p5), .unset, .unset, .unset, .unset, .unset] [(.ref b2), (.ref b2)])) t
    refine XS.bipush X52.here hx rfl (hb hby at_257) ?_
    show Steps p.tables e below (T52.setTop (mkF m 259 #[.val (.long q0), .second, .val (.long q1), .second, .val (.long q2), .second, .val (.long q3), .second, .val (.int p4), .val (.int p5), .unset, .unset, .unset, .unset, .unset] [(.int (26 : Int32)), (.ref b2), (.ref b2)])) t
    refine XS.lload X52.here hx rfl (hb hby at_259) rfl ?_
    show Steps p.tables e below (T52.setTop (mkF m 261 #[.val (.long q0), .second, .val (.long q1), .second, .val (.long q2), .second, .val (.long q3), .second, .val (.int p4), .val (.int p5), .unset, .unset, .unset, .unset, .unset] [(.long q3), (.int (26 : Int32)), (.ref b2), (.ref b2)])) t
    refine XS.bipush X52.here hx rfl (hb hby at_261) ?_
    show Steps p.tables e below (T52.setTop (mkF m 263 #[.val (.long q0), .second, .val (.long q1), .second, .val (.long q2), .second, .val (.long q3), .second, .val (.int p4), .val (.int p5), .unset, .unset, .unset, .unset, .unset] [(.int (16 : Int32)), (.long q3), (.int (26 : Int32)), (.ref b2), (.ref b2)])) t
    refine XS.lushr X52.here hx rfl (hb hby at_263) rfl ?_
    show Steps p.tables e below (T52.setTop (mkF m 264 #[.val (.long q0), .second, .val (.long q1), .second, .val (.long q2), .second, .val (.long q3), .second, .val (.int p4), .val (.int p5), .unset, .unset, .unset, .unset, .unset] [(.long ((q3.toUInt64 >>> ((16 : Int32) &&& 0x3f).toInt64.toUInt64).toInt64)), (.int (26 : Int32)), (.ref b2), (.ref b2)])) t
    refine XS.l2i X52.here hx rfl (hb hby at_264) rfl ?_
    show Steps p.tables e below (T52.setTop (mkF m 265 #[.val (.long q0), .second, .val (.long q1), .second, .val (.long q2), .second, .val (.long q3), .second, .val (.int p4), .val (.int p5), .unset, .unset, .unset, .unset, .unset] [(.int (((q3.toUInt64 >>> ((16 : Int32) &&& 0x3f).toInt64.toUInt64).toInt64).toInt32)), (.int (26 : Int32)), (.ref b2), (.ref b2)])) t
    refine XS.i2b X52.here hx rfl (hb hby at_265) rfl ?_
    show Steps p.tables e below (T52.setTop (mkF m 266 #[.val (.long q0), .second, .val (.long q1), .second, .val (.long q2), .second, .val (.long q3), .second, .val (.int p4), .val (.int p5), .unset, .unset, .unset, .unset, .unset] [(.int ((((q3.toUInt64 >>> ((16 : Int32) &&& 0x3f).toInt64.toUInt64).toInt64).toInt32).toInt8.toInt32)), (.int (26 : Int32)), (.ref b2), (.ref b2)])) t
    refine st54 _ ?_
    show Steps p.tables e below (T54.setTop (mkF m 267 #[.val (.long q0), .second, .val (.long q1), .second, .val (.long q2), .second, .val (.long q3), .second, .val (.int p4), .val (.int p5), .unset, .unset, .unset, .unset, .unset] [(.ref b2)])) t
    refine XS.dup X54.here hx rfl (hb hby at_267) rfl rfl ?_
    show Steps p.tables e below (T54.setTop (mkF m 268 #[.val (.long q0), .second, .val (.long q1), .second, .val (.long q2), .second, .val (.long q3), .second, .val (.int p4), .val (.int p5), .unset, .unset, .unset, .unset, .unset] [(.ref b2), (.ref b2)])) t
    refine XS.bipush X54.here hx rfl (hb hby at_268) ?_
    show Steps p.tables e below (T54.setTop (mkF m 270 #[.val (.long q0), .second, .val (.long q1), .second, .val (.long q2), .second, .val (.long q3), .second, .val (.int p4), .val (.int p5), .unset, .unset, .unset, .unset, .unset] [(.int (27 : Int32)), (.ref b2), (.ref b2)])) t
    refine XS.lload X54.here hx rfl (hb hby at_270) rfl ?_
    show Steps p.tables e below (T54.setTop (mkF m 272 #[.val (.long q0), .second, .val (.long q1), .second, .val (.long q2), .second, .val (.long q3), .second, .val (.int p4), .val (.int p5), .unset, .unset, .unset, .unset, .unset] [(.long q3), (.int (27 : Int32)), (.ref b2), (.ref b2)])) t
    refine XS.bipush X54.here hx rfl (hb hby at_272) ?_
    show Steps p.tables e below (T54.setTop (mkF m 274 #[.val (.long q0), .second, .val (.long q1), .second, .val (.long q2), .second, .val (.long q3), .second, .val (.int p4), .val (.int p5), .unset, .unset, .unset, .unset, .unset] [(.int (24 : Int32)), (.long q3), (.int (27 : Int32)), (.ref b2), (.ref b2)])) t
    refine XS.lushr X54.here hx rfl (hb hby at_274) rfl ?_
    show Steps p.tables e below (T54.setTop (mkF m 275 #[.val (.long q0), .second, .val (.long q1), .second, .val (.long q2), .second, .val (.long q3), .second, .val (.int p4), .val (.int p5), .unset, .unset, .unset, .unset, .unset] [(.long ((q3.toUInt64 >>> ((24 : Int32) &&& 0x3f).toInt64.toUInt64).toInt64)), (.int (27 : Int32)), (.ref b2), (.ref b2)])) t
    refine XS.l2i X54.here hx rfl (hb hby at_275) rfl ?_
    show Steps p.tables e below (T54.setTop (mkF m 276 #[.val (.long q0), .second, .val (.long q1), .second, .val (.long q2), .second, .val (.long q3), .second, .val (.int p4), .val (.int p5), .unset, .unset, .unset, .unset, .unset] [(.int (((q3.toUInt64 >>> ((24 : Int32) &&& 0x3f).toInt64.toUInt64).toInt64).toInt32)), (.int (27 : Int32)), (.ref b2), (.ref b2)])) t
    refine XS.i2b X54.here hx rfl (hb hby at_276) rfl ?_
    show Steps p.tables e below (T54.setTop (mkF m 277 #[.val (.long q0), .second, .val (.long q1), .second, .val (.long q2), .second, .val (.long q3), .second, .val (.int p4), .val (.int p5), .unset, .unset, .unset, .unset, .unset] [(.int ((((q3.toUInt64 >>> ((24 : Int32) &&& 0x3f).toInt64.toUInt64).toInt64).toInt32).toInt8.toInt32)), (.int (27 : Int32)), (.ref b2), (.ref b2)])) t
    refine st56 _ ?_
    show Steps p.tables e below (T56.setTop (mkF m 278 #[.val (.long q0), .second, .val (.long q1), .second, .val (.long q2), .second, .val (.long q3), .second, .val (.int p4), .val (.int p5), .unset, .unset, .unset, .unset, .unset] [(.ref b2)])) t
    refine XS.dup X56.here hx rfl (hb hby at_278) rfl rfl ?_
    show Steps p.tables e below (T56.setTop (mkF m 279 #[.val (.long q0), .second, .val (.long q1), .second, .val (.long q2), .second, .val (.long q3), .second, .val (.int p4), .val (.int p5), .unset, .unset, .unset, .unset, .unset] [(.ref b2), (.ref b2)])) t
    refine XS.bipush X56.here hx rfl (hb hby at_279) ?_
    show Steps p.tables e below (T56.setTop (mkF m 281 #[.val (.long q0), .second, .val (.long q1), .second, .val (.long q2), .second, .val (.long q3), .second, .val (.int p4), .val (.int p5), .unset, .unset, .unset, .unset, .unset] [(.int (28 : Int32)), (.ref b2), (.ref b2)])) t
    refine XS.lload X56.here hx rfl (hb hby at_281) rfl ?_
    show Steps p.tables e below (T56.setTop (mkF m 283 #[.val (.long q0), .second, .val (.long q1), .second, .val (.long q2), .second, .val (.long q3), .second, .val (.int p4), .val (.int p5), .unset, .unset, .unset, .unset, .unset] [(.long q3), (.int (28 : Int32)), (.ref b2), (.ref b2)])) t
    refine XS.bipush X56.here hx rfl (hb hby at_283) ?_
    show Steps p.tables e below (T56.setTop (mkF m 285 #[.val (.long q0), .second, .val (.long q1), .second, .val (.long q2), .second, .val (.long q3), .second, .val (.int p4), .val (.int p5), .unset, .unset, .unset, .unset, .unset] [(.int (32 : Int32)), (.long q3), (.int (28 : Int32)), (.ref b2), (.ref b2)])) t
    refine XS.lushr X56.here hx rfl (hb hby at_285) rfl ?_
    show Steps p.tables e below (T56.setTop (mkF m 286 #[.val (.long q0), .second, .val (.long q1), .second, .val (.long q2), .second, .val (.long q3), .second, .val (.int p4), .val (.int p5), .unset, .unset, .unset, .unset, .unset] [(.long ((q3.toUInt64 >>> ((32 : Int32) &&& 0x3f).toInt64.toUInt64).toInt64)), (.int (28 : Int32)), (.ref b2), (.ref b2)])) t
    refine XS.l2i X56.here hx rfl (hb hby at_286) rfl ?_
    show Steps p.tables e below (T56.setTop (mkF m 287 #[.val (.long q0), .second, .val (.long q1), .second, .val (.long q2), .second, .val (.long q3), .second, .val (.int p4), .val (.int p5), .unset, .unset, .unset, .unset, .unset] [(.int (((q3.toUInt64 >>> ((32 : Int32) &&& 0x3f).toInt64.toUInt64).toInt64).toInt32)), (.int (28 : Int32)), (.ref b2), (.ref b2)])) t
    refine XS.i2b X56.here hx rfl (hb hby at_287) rfl ?_
    show Steps p.tables e below (T56.setTop (mkF m 288 #[.val (.long q0), .second, .val (.long q1), .second, .val (.long q2), .second, .val (.long q3), .second, .val (.int p4), .val (.int p5), .unset, .unset, .unset, .unset, .unset] [(.int ((((q3.toUInt64 >>> ((32 : Int32) &&& 0x3f).toInt64.toUInt64).toInt64).toInt32).toInt8.toInt32)), (.int (28 : Int32)), (.ref b2), (.ref b2)])) t
    refine st58 _ ?_
    show Steps p.tables e below (T58.setTop (mkF m 289 #[.val (.long q0), .second, .val (.long q1), .second, .val (.long q2), .second, .val (.long q3), .second, .val (.int p4), .val (.int p5), .unset, .unset, .unset, .unset, .unset] [(.ref b2)])) t
    refine XS.dup X58.here hx rfl (hb hby at_289) rfl rfl ?_
    show Steps p.tables e below (T58.setTop (mkF m 290 #[.val (.long q0), .second, .val (.long q1), .second, .val (.long q2), .second, .val (.long q3), .second, .val (.int p4), .val (.int p5), .unset, .unset, .unset, .unset, .unset] [(.ref b2), (.ref b2)])) t
    refine XS.bipush X58.here hx rfl (hb hby at_290) ?_
    show Steps p.tables e below (T58.setTop (mkF m 292 #[.val (.long q0), .second, .val (.long q1), .second, .val (.long q2), .second, .val (.long q3), .second, .val (.int p4), .val (.int p5), .unset, .unset, .unset, .unset, .unset] [(.int (29 : Int32)), (.ref b2), (.ref b2)])) t
    refine XS.lload X58.here hx rfl (hb hby at_292) rfl ?_
    show Steps p.tables e below (T58.setTop (mkF m 294 #[.val (.long q0), .second, .val (.long q1), .second, .val (.long q2), .second, .val (.long q3), .second, .val (.int p4), .val (.int p5), .unset, .unset, .unset, .unset, .unset] [(.long q3), (.int (29 : Int32)), (.ref b2), (.ref b2)])) t
    refine XS.bipush X58.here hx rfl (hb hby at_294) ?_
    show Steps p.tables e below (T58.setTop (mkF m 296 #[.val (.long q0), .second, .val (.long q1), .second, .val (.long q2), .second, .val (.long q3), .second, .val (.int p4), .val (.int p5), .unset, .unset, .unset, .unset, .unset] [(.int (40 : Int32)), (.long q3), (.int (29 : Int32)), (.ref b2), (.ref b2)])) t
    refine XS.lushr X58.here hx rfl (hb hby at_296) rfl ?_
    show Steps p.tables e below (T58.setTop (mkF m 297 #[.val (.long q0), .second, .val (.long q1), .second, .val (.long q2), .second, .val (.long q3), .second, .val (.int p4), .val (.int p5), .unset, .unset, .unset, .unset, .unset] [(.long ((q3.toUInt64 >>> ((40 : Int32) &&& 0x3f).toInt64.toUInt64).toInt64)), (.int (29 : Int32)), (.ref b2), (.ref b2)])) t
    refine XS.l2i X58.here hx rfl (hb hby at_297) rfl ?_
    show Steps p.tables e below (T58.setTop (mkF m 298 #[.val (.long q0), .second, .val (.long q1), .second, .val (.long q2), .second, .val (.long q3), .second, .val (.int p4), .val (.int p5), .unset, .unset, .unset, .unset, .unset] [(.int (((q3.toUInt64 >>> ((40 : Int32) &&& 0x3f).toInt64.toUInt64).toInt64).toInt32)), (.int (29 : Int32)), (.ref b2), (.ref b2)])) t
    refine XS.i2b X58.here hx rfl (hb hby at_298) rfl ?_
    show Steps p.tables e below (T58.setTop (mkF m 299 #[.val (.long q0), .second, .val (.long q1), .second, .val (.long q2), .second, .val (.long q3), .second, .val (.int p4), .val (.int p5), .unset, .unset, .unset, .unset, .unset] [(.int ((((q3.toUInt64 >>> ((40 : Int32) &&& 0x3f).toInt64.toUInt64).toInt64).toInt32).toInt8.toInt32)), (.int (29 : Int32)), (.ref b2), (.ref b2)])) t
    refine st60 _ ?_
    show Steps p.tables e below (T60.setTop (mkF m 300 #[.val (.long q0), .second, .val (.long q1), .second, .val (.long q2), .second, .val (.long q3), .second, .val (.int p4), .val (.int p5), .unset, .unset, .unset, .unset, .unset] [(.ref b2)])) t
    refine XS.dup X60.here hx rfl (hb hby at_300) rfl rfl ?_
    show Steps p.tables e below (T60.setTop (mkF m 301 #[.val (.long q0), .second, .val (.long q1), .second, .val (.long q2), .second, .val (.long q3), .second, .val (.int p4), .val (.int p5), .unset, .unset, .unset, .unset, .unset] [(.ref b2), (.ref b2)])) t
    refine XS.bipush X60.here hx rfl (hb hby at_301) ?_
    show Steps p.tables e below (T60.setTop (mkF m 303 #[.val (.long q0), .second, .val (.long q1), .second, .val (.long q2), .second, .val (.long q3), .second, .val (.int p4), .val (.int p5), .unset, .unset, .unset, .unset, .unset] [(.int (30 : Int32)), (.ref b2), (.ref b2)])) t
    refine XS.lload X60.here hx rfl (hb hby at_303) rfl ?_
    show Steps p.tables e below (T60.setTop (mkF m 305 #[.val (.long q0), .second, .val (.long q1), .second, .val (.long q2), .second, .val (.long q3), .second, .val (.int p4), .val (.int p5), .unset, .unset, .unset, .unset, .unset] [(.long q3), (.int (30 : Int32)), (.ref b2), (.ref b2)])) t
    refine XS.bipush X60.here hx rfl (hb hby at_305) ?_
    show Steps p.tables e below (T60.setTop (mkF m 307 #[.val (.long q0), .second, .val (.long q1), .second, .val (.long q2), .second, .val (.long q3), .second, .val (.int p4), .val (.int p5), .unset, .unset, .unset, .unset, .unset] [(.int (48 : Int32)), (.long q3), (.int (30 : Int32)), (.ref b2), (.ref b2)])) t
    refine XS.lushr X60.here hx rfl (hb hby at_307) rfl ?_
    show Steps p.tables e below (T60.setTop (mkF m 308 #[.val (.long q0), .second, .val (.long q1), .second, .val (.long q2), .second, .val (.long q3), .second, .val (.int p4), .val (.int p5), .unset, .unset, .unset, .unset, .unset] [(.long ((q3.toUInt64 >>> ((48 : Int32) &&& 0x3f).toInt64.toUInt64).toInt64)), (.int (30 : Int32)), (.ref b2), (.ref b2)])) t
    refine XS.l2i X60.here hx rfl (hb hby at_308) rfl ?_
    show Steps p.tables e below (T60.setTop (mkF m 309 #[.val (.long q0), .second, .val (.long q1), .second, .val (.long q2), .second, .val (.long q3), .second, .val (.int p4), .val (.int p5), .unset, .unset, .unset, .unset, .unset] [(.int (((q3.toUInt64 >>> ((48 : Int32) &&& 0x3f).toInt64.toUInt64).toInt64).toInt32)), (.int (30 : Int32)), (.ref b2), (.ref b2)])) t
    refine XS.i2b X60.here hx rfl (hb hby at_309) rfl ?_
    show Steps p.tables e below (T60.setTop (mkF m 310 #[.val (.long q0), .second, .val (.long q1), .second, .val (.long q2), .second, .val (.long q3), .second, .val (.int p4), .val (.int p5), .unset, .unset, .unset, .unset, .unset] [(.int ((((q3.toUInt64 >>> ((48 : Int32) &&& 0x3f).toInt64.toUInt64).toInt64).toInt32).toInt8.toInt32)), (.int (30 : Int32)), (.ref b2), (.ref b2)])) t
    refine st62 _ ?_
    show Steps p.tables e below (T62.setTop (mkF m 311 #[.val (.long q0), .second, .val (.long q1), .second, .val (.long q2), .second, .val (.long q3), .second, .val (.int p4), .val (.int p5), .unset, .unset, .unset, .unset, .unset] [(.ref b2)])) t
    refine XS.dup X62.here hx rfl (hb hby at_311) rfl rfl ?_
    show Steps p.tables e below (T62.setTop (mkF m 312 #[.val (.long q0), .second, .val (.long q1), .second, .val (.long q2), .second, .val (.long q3), .second, .val (.int p4), .val (.int p5), .unset, .unset, .unset, .unset, .unset] [(.ref b2), (.ref b2)])) t
    refine XS.bipush X62.here hx rfl (hb hby at_312) ?_
    show Steps p.tables e below (T62.setTop (mkF m 314 #[.val (.long q0), .second, .val (.long q1), .second, .val (.long q2), .second, .val (.long q3), .second, .val (.int p4), .val (.int p5), .unset, .unset, .unset, .unset, .unset] [(.int (31 : Int32)), (.ref b2), (.ref b2)])) t
    refine XS.lload X62.here hx rfl (hb hby at_314) rfl ?_
    show Steps p.tables e below (T62.setTop (mkF m 316 #[.val (.long q0), .second, .val (.long q1), .second, .val (.long q2), .second, .val (.long q3), .second, .val (.int p4), .val (.int p5), .unset, .unset, .unset, .unset, .unset] [(.long q3), (.int (31 : Int32)), (.ref b2), (.ref b2)])) t
    refine XS.bipush X62.here hx rfl (hb hby at_316) ?_
    show Steps p.tables e below (T62.setTop (mkF m 318 #[.val (.long q0), .second, .val (.long q1), .second, .val (.long q2), .second, .val (.long q3), .second, .val (.int p4), .val (.int p5), .unset, .unset, .unset, .unset, .unset] [(.int (56 : Int32)), (.long q3), (.int (31 : Int32)), (.ref b2), (.ref b2)])) t
    refine XS.lushr X62.here hx rfl (hb hby at_318) rfl ?_
    show Steps p.tables e below (T62.setTop (mkF m 319 #[.val (.long q0), .second, .val (.long q1), .second, .val (.long q2), .second, .val (.long q3), .second, .val (.int p4), .val (.int p5), .unset, .unset, .unset, .unset, .unset] [(.long ((q3.toUInt64 >>> ((56 : Int32) &&& 0x3f).toInt64.toUInt64).toInt64)), (.int (31 : Int32)), (.ref b2), (.ref b2)])) t
    refine XS.l2i X62.here hx rfl (hb hby at_319) rfl ?_
    show Steps p.tables e below (T62.setTop (mkF m 320 #[.val (.long q0), .second, .val (.long q1), .second, .val (.long q2), .second, .val (.long q3), .second, .val (.int p4), .val (.int p5), .unset, .unset, .unset, .unset, .unset] [(.int (((q3.toUInt64 >>> ((56 : Int32) &&& 0x3f).toInt64.toUInt64).toInt64).toInt32)), (.int (31 : Int32)), (.ref b2), (.ref b2)])) t
    refine XS.i2b X62.here hx rfl (hb hby at_320) rfl ?_
    show Steps p.tables e below (T62.setTop (mkF m 321 #[.val (.long q0), .second, .val (.long q1), .second, .val (.long q2), .second, .val (.long q3), .second, .val (.int p4), .val (.int p5), .unset, .unset, .unset, .unset, .unset] [(.int ((((q3.toUInt64 >>> ((56 : Int32) &&& 0x3f).toInt64.toUInt64).toInt64).toInt32).toInt8.toInt32)), (.int (31 : Int32)), (.ref b2), (.ref b2)])) t
    refine st64 _ ?_
    show Steps p.tables e below (T64.setTop (mkF m 322 #[.val (.long q0), .second, .val (.long q1), .second, .val (.long q2), .second, .val (.long q3), .second, .val (.int p4), .val (.int p5), .unset, .unset, .unset, .unset, .unset] [(.ref b2)])) t
    refine XS.astore X64.here hx rfl (hb hby at_322) rfl rfl (l' := #[.val (.long q0), .second, .val (.long q1), .second, .val (.long q2), .second, .val (.long q3), .second, .val (.int p4), .val (.int p5), .val (.ref b2), .unset, .unset, .unset, .unset]) rfl ?_
    show Steps p.tables e below (T64.setTop (mkF m 324 #[.val (.long q0), .second, .val (.long q1), .second, .val (.long q2), .second, .val (.long q3), .second, .val (.int p4), .val (.int p5), .val (.ref b2), .unset, .unset, .unset, .unset] [])) t
    refine XS.iconst X64.here hx rfl (hb hby at_324) ?_
    show Steps p.tables e below (T64.setTop (mkF m 325 #[.val (.long q0), .second, .val (.long q1), .second, .val (.long q2), .second, .val (.long q3), .second, .val (.int p4), .val (.int p5), .val (.ref b2), .unset, .unset, .unset, .unset] [(.int (4 : Int32))])) t
    refine XS.iload X64.here hx rfl (hb hby at_325) rfl ?_
    show Steps p.tables e below (T64.setTop (mkF m 327 #[.val (.long q0), .second, .val (.long q1), .second, .val (.long q2), .second, .val (.long q3), .second, .val (.int p4), .val (.int p5), .val (.ref b2), .unset, .unset, .unset, .unset] [(.int p4), (.int (4 : Int32))])) t
    refine X64.ldcInt hx hown (mvT hZ (hw _ (List.mem_of_getElem? (i := 1) rfl))) (g := (mkF m 327 #[.val (.long q0), .second, .val (.long q1), .second, .val (.long q2), .second, .val (.long q3), .second, .val (.int p4), .val (.int p5), .val (.ref b2), .unset, .unset, .unset, .unset] [(.int p4), (.int (4 : Int32))])) rfl (hb hby at_327) _ ?_
    show Steps p.tables e below (T64.setTop (mkF m 329 #[.val (.long q0), .second, .val (.long q1), .second, .val (.long q2), .second, .val (.long q3), .second, .val (.int p4), .val (.int p5), .val (.ref b2), .unset, .unset, .unset, .unset] [(.int (2147483647 : Int32)), (.int p4), (.int (4 : Int32))])) t
    refine XS.iand X64.here hx rfl (hb hby at_329) rfl ?_
    show Steps p.tables e below (T64.setTop (mkF m 330 #[.val (.long q0), .second, .val (.long q1), .second, .val (.long q2), .second, .val (.long q3), .second, .val (.int p4), .val (.int p5), .val (.ref b2), .unset, .unset, .unset, .unset] [(.int (p4 &&& (2147483647 : Int32))), (.int (4 : Int32))])) t
    refine XS.bipush X64.here hx rfl (hb hby at_330) ?_
    show Steps p.tables e below (T64.setTop (mkF m 332 #[.val (.long q0), .second, .val (.long q1), .second, .val (.long q2), .second, .val (.long q3), .second, .val (.int p4), .val (.int p5), .val (.ref b2), .unset, .unset, .unset, .unset] [(.int (29 : Int32)), (.int (p4 &&& (2147483647 : Int32))), (.int (4 : Int32))])) t
    refine iremM X64 hx rfl (hb hby at_332) rfl (by decide) ?_
    show Steps p.tables e below (T64.setTop (mkF m 333 #[.val (.long q0), .second, .val (.long q1), .second, .val (.long q2), .second, .val (.long q3), .second, .val (.int p4), .val (.int p5), .val (.ref b2), .unset, .unset, .unset, .unset] [(.int ((p4 &&& (2147483647 : Int32)) % (29 : Int32))), (.int (4 : Int32))])) t
    refine XS.iadd X64.here hx rfl (hb hby at_333) rfl ?_
    show Steps p.tables e below (T64.setTop (mkF m 334 #[.val (.long q0), .second, .val (.long q1), .second, .val (.long q2), .second, .val (.long q3), .second, .val (.int p4), .val (.int p5), .val (.ref b2), .unset, .unset, .unset, .unset] [(.int ((4 : Int32) + ((p4 &&& (2147483647 : Int32)) % (29 : Int32))))])) t
    refine XS.istore X64.here hx rfl (hb hby at_334) rfl (l' := #[.val (.long q0), .second, .val (.long q1), .second, .val (.long q2), .second, .val (.long q3), .second, .val (.int p4), .val (.int p5), .val (.ref b2), .val (.int ((4 : Int32) + ((p4 &&& (2147483647 : Int32)) % (29 : Int32)))), .unset, .unset, .unset]) rfl ?_
    exact kt
  obtain ⟨v334, hv334, K67⟩ : ∃ v334 : Int32, v334 = ((4 : Int32) + ((p4 &&& (2147483647 : Int32)) % (29 : Int32))) ∧ ∀ t, Steps p.tables e below (T64.setTop (mkF m 336 #[.val (.long q0), .second, .val (.long q1), .second, .val (.long q2), .second, .val (.long q3), .second, .val (.int p4), .val (.int p5), .val (.ref b2), .val (.int v334), .unset, .unset, .unset] [])) t → P0 t := ⟨_, rfl, K66⟩
  obtain ⟨n, hn, hn4, hn32⟩ := own_n hv334
  obtain ⟨_, _, ⟨T68, L68, k68, n68⟩, -, X68, ⟨Lc68, hQ68, l68, y68, z68⟩, st68⟩ := Jvm.LawKit.callS X64 hx (y := (⟨"com/example/trimhash/trimhash/HashPrefix", "of", "([BI)Lcom/example/trimhash/trimhash/HashPrefix;"⟩ : MethodName)) hown (mvT hZ (hw _ (List.mem_of_getElem? (i := 2) rfl))) (mvT hZ (hw _ (List.mem_of_getElem? (i := 3) rfl))) (mvT hZ (hw _ (List.mem_of_getElem? (i := 4) rfl))) (mvT hZ (hw _ (List.mem_of_getElem? (i := 5) rfl))) (by decide) (backOf (W := 0) (rm_of l Z a0 hw [] b2 v334 f321 n h64 n0 Z64 V64' F65 hn hn32) hZ (hw _ (List.mem_of_getElem? (i := 5) rfl)) (hw _ (List.mem_of_getElem? (i := 4) rfl)) (by decide) (by decide)) (g := (mkF m 340 #[.val (.long q0), .second, .val (.long q1), .second, .val (.long q2), .second, .val (.long q3), .second, .val (.int p4), .val (.int p5), .val (.ref b2), .val (.int v334), .unset, .unset, .unset] [(.int v334), (.ref b2)])) rfl (by rw [hml]; rfl) (argsL := [(.ref b2), (.int v334)]) (rest := []) (lenOf law_pd0 rfl) rfl (by show 2 * 0 + _ ≤ _; exact Nat.le_of_eq rfl) (hb hby at_340) (fun _ _ => ⟨rfl, e64, (by decide : 1 + 2 ≤ _), (by decide : 32 + 33 ≤ _)⟩)
  dsimp only [Pt.U, Pt.locs, Pt.cells, Pt.slots] at X68 l68 y68 z68 st68 hQ68
  rw [l68, y68, z68] at X68
  obtain ⟨h68, e68⟩ : ∃ z, T68.heap = z := ⟨_, rfl⟩
  rw [e68] at hQ68
  obtain ⟨o340, b340, rfl, N68q, Kq68, gs_o340, F69, F70, F71, F72⟩ := hQ68
  have N68 := Fr.app N64 N68q
  have g_o340 : n0 ≤ o340 := Nat.le_trans Z64 gs_o340
  have ne_b2_o340 : b2 ≠ o340 := Nat.ne_of_lt (Nat.lt_of_lt_of_le F65.lt gs_o340)
  have Z68 : n0 ≤ h68.size := Nat.le_trans Z64 Kq68.1
  have F73 : Exa Z h68 b2 "[B" := F65.keep Kq68
  have F74 : IA Z h68 b2 .byte 32 f321 := V64'.keep Kq68 nin0
  obtain ⟨cq75, kq75, q75a, q75b, q75c⟩ := isOf hZ e68 F69
  obtain ⟨_, _, ⟨T75, L75, k75, n75⟩, -, X75, ⟨Lc75, hQ75, l75, y75, z75⟩, st75⟩ := X68.virtualBack hx (y := (⟨"com/example/trimhash/trimhash/HashPrefix", "toByteArray", "()[B"⟩ : MethodName)) (z := (⟨"com/example/trimhash/trimhash/HashPrefix", "toByteArray", "()[B"⟩ : MethodName)) hown (mvT hZ (hw _ (List.mem_of_getElem? (i := 28) rfl))) (mvT hZ (hw _ (List.mem_of_getElem? (i := 29) rfl))) (notFace_of_selects (args := #[]) (mvT hZ (hw _ (List.mem_of_getElem? (i := 31) rfl)))) (mvT hZ (hw _ (List.mem_of_getElem? (i := 31) rfl))) (mvT hZ (hw _ (List.mem_of_getElem? (i := 30) rfl))) (by decide) (backOf (W := 0) (rm_tba l Z a0 hw [] o340 b340 f321 n h68 n0 Z68 F70 F72 F71 hn32) hZ (hw _ (List.mem_of_getElem? (i := 32) rfl)) (hw _ (List.mem_of_getElem? (i := 4) rfl)) (by decide) (by decide)) q75a q75c (g := (mkF m 347 #[.val (.long q0), .second, .val (.long q1), .second, .val (.long q2), .second, .val (.long q3), .second, .val (.int p4), .val (.int p5), .val (.ref b2), .val (.int v334), .val (.ref o340), .unset, .unset] [(.ref o340)])) rfl (by rw [hml]; rfl) (Steps.refl _) (argsL := []) (rest := []) (lenOf law_pd1 rfl) rfl (by show 2 * 0 + _ ≤ _; exact Nat.le_of_eq rfl) (hb hby at_347) (fun _ _ => ⟨rfl, e68, (by decide : 3 + 1 ≤ _), (by decide : 65 + 32 ≤ _)⟩)
  dsimp only [Pt.U, Pt.locs, Pt.cells, Pt.slots] at X75 l75 y75 z75 st75 hQ75
  rw [l75, y75, z75] at X75
  obtain ⟨h75, e75⟩ : ∃ z, T75.heap = z := ⟨_, rfl⟩
  rw [e75] at hQ75
  obtain ⟨b347, rfl, N75q, Kq75, gs_b347, F76, F77⟩ := hQ75
  have N75 := Fr.app N68 N75q
  have g_b347 : n0 ≤ b347 := Nat.le_trans Z68 gs_b347
  have ne_b2_b347 : b2 ≠ b347 := Nat.ne_of_lt (Nat.lt_of_lt_of_le F73.lt gs_b347)
  have ne_o340_b347 : o340 ≠ b347 := Nat.ne_of_lt (Nat.lt_of_lt_of_le F69.lt gs_b347)
  have ne_b340_b347 : b340 ≠ b347 := Nat.ne_of_lt (Nat.lt_of_lt_of_le F71.lt gs_b347)
  have Z75 : n0 ≤ h75.size := Nat.le_trans Z68 Kq75.1
  have F78 : Exa Z h75 b2 "[B" := F73.keep Kq75
  have F79 : IA Z h75 b2 .byte 32 f321 := F74.keep Kq75 nin0
  have F80 : Exa Z h75 o340 "com/example/trimhash/trimhash/HashPrefix" := F69.keep Kq75
  have F81 : Fld Z h75 o340 "com/example/trimhash/trimhash/HashPrefix" "bytes" "[B" (.ref b340) := F70.keep Kq75 nin0
  have F82 : Exa Z h75 b340 "[B" := F71.keep Kq75
  have F83 : IA Z h75 b340 .byte n f321 := F72.keep Kq75 nin0
  obtain ⟨cq84, kq84, q84a, q84b, q84c⟩ := isOf hZ e75 F80
  obtain ⟨_, _, ⟨T84, L84, k84, n84⟩, -, X84, ⟨Lc84, hQ84, l84, y84, z84⟩, st84⟩ := X75.virtualBack hx (y := (⟨"com/example/trimhash/trimhash/HashPrefix", "length", "()I"⟩ : MethodName)) (z := (⟨"com/example/trimhash/trimhash/HashPrefix", "length", "()I"⟩ : MethodName)) hown (mvT hZ (hw _ (List.mem_of_getElem? (i := 42) rfl))) (mvT hZ (hw _ (List.mem_of_getElem? (i := 43) rfl))) (notFace_of_selects (args := #[]) (mvT hZ (hw _ (List.mem_of_getElem? (i := 45) rfl)))) (mvT hZ (hw _ (List.mem_of_getElem? (i := 45) rfl))) (mvT hZ (hw _ (List.mem_of_getElem? (i := 44) rfl))) (by decide) (backOf (W := 0) (rm_len l Z a0 hw [] o340 b340 f321 n h75 n0 Z75 F81 F83 F82 hn32) hZ (hw _ (List.mem_of_getElem? (i := 46) rfl)) (hw _ (List.mem_of_getElem? (i := 4) rfl)) (by decide) (by decide)) q84a q84c (g := (mkF m 354 #[.val (.long q0), .second, .val (.long q1), .second, .val (.long q2), .second, .val (.long q3), .second, .val (.int p4), .val (.int p5), .val (.ref b2), .val (.int v334), .val (.ref o340), .val (.ref b347), .unset] [(.ref o340)])) rfl (by rw [hml]; rfl) (Steps.refl _) (argsL := []) (rest := []) (lenOf law_pd2 rfl) rfl (by show 2 * 0 + _ ≤ _; exact Nat.le_of_eq rfl) (hb hby at_354) (fun _ _ => ⟨rfl, e75, (by decide : 4 + 0 ≤ _), (by decide : 97 + 0 ≤ _)⟩)
  dsimp only [Pt.U, Pt.locs, Pt.cells, Pt.slots] at X84 l84 y84 z84 st84 hQ84
  rw [l84, y84, z84] at X84
  obtain ⟨rfl, N84q, e84⟩ := hQ84
  have N84 := Fr.app N75 N84q
  have K85 : ∀ t, Steps p.tables e below (T84.setTop (mkF m 359 #[.val (.long q0), .second, .val (.long q1), .second, .val (.long q2), .second, .val (.long q3), .second, .val (.int p4), .val (.int p5), .val (.ref b2), .val (.int v334), .val (.ref o340), .val (.ref b347), .unset] [(.int v334), (.int (Nat.toInt32 n))])) t → P0 t := by
    intro t kt
    refine K67 t ?_
    show Steps p.tables e below (T64.setTop (mkF m 336 #[.val (.long q0), .second, .val (.long q1), .second, .val (.long q2), .second, .val (.long q3), .second, .val (.int p4), .val (.int p5), .val (.ref b2), .val (.int v334), .unset, .unset, .unset] [])) t
    refine XS.aload X64.here hx rfl (hb hby at_336) rfl rfl ?_
    show Steps p.tables e below (T64.setTop (mkF m 338 #[.val (.long q0), .second, .val (.long q1), .second, .val (.long q2), .second, .val (.long q3), .second, .val (.int p4), .val (.int p5), .val (.ref b2), .val (.int v334), .unset, .unset, .unset] [(.ref b2)])) t
    refine XS.iload X64.here hx rfl (hb hby at_338) rfl ?_
    show Steps p.tables e below (T64.setTop (mkF m 340 #[.val (.long q0), .second, .val (.long q1), .second, .val (.long q2), .second, .val (.long q3), .second, .val (.int p4), .val (.int p5), .val (.ref b2), .val (.int v334), .unset, .unset, .unset] [(.int v334), (.ref b2)])) t
    refine st68 _ ?_
    show Steps p.tables e below (T68.setTop (mkF m 343 #[.val (.long q0), .second, .val (.long q1), .second, .val (.long q2), .second, .val (.long q3), .second, .val (.int p4), .val (.int p5), .val (.ref b2), .val (.int v334), .unset, .unset, .unset] [(.ref o340)])) t
    refine XS.astore X68.here hx rfl (hb hby at_343) rfl rfl (l' := #[.val (.long q0), .second, .val (.long q1), .second, .val (.long q2), .second, .val (.long q3), .second, .val (.int p4), .val (.int p5), .val (.ref b2), .val (.int v334), .val (.ref o340), .unset, .unset]) rfl ?_
    show Steps p.tables e below (T68.setTop (mkF m 345 #[.val (.long q0), .second, .val (.long q1), .second, .val (.long q2), .second, .val (.long q3), .second, .val (.int p4), .val (.int p5), .val (.ref b2), .val (.int v334), .val (.ref o340), .unset, .unset] [])) t
    refine XS.aload X68.here hx rfl (hb hby at_345) rfl rfl ?_
    show Steps p.tables e below (T68.setTop (mkF m 347 #[.val (.long q0), .second, .val (.long q1), .second, .val (.long q2), .second, .val (.long q3), .second, .val (.int p4), .val (.int p5), .val (.ref b2), .val (.int v334), .val (.ref o340), .unset, .unset] [(.ref o340)])) t
    refine st75.trans ?_
    show Steps p.tables e below (T75.setTop (mkF m 350 #[.val (.long q0), .second, .val (.long q1), .second, .val (.long q2), .second, .val (.long q3), .second, .val (.int p4), .val (.int p5), .val (.ref b2), .val (.int v334), .val (.ref o340), .unset, .unset] [(.ref b347)])) t
    refine XS.astore X75.here hx rfl (hb hby at_350) rfl rfl (l' := #[.val (.long q0), .second, .val (.long q1), .second, .val (.long q2), .second, .val (.long q3), .second, .val (.int p4), .val (.int p5), .val (.ref b2), .val (.int v334), .val (.ref o340), .val (.ref b347), .unset]) rfl ?_
    show Steps p.tables e below (T75.setTop (mkF m 352 #[.val (.long q0), .second, .val (.long q1), .second, .val (.long q2), .second, .val (.long q3), .second, .val (.int p4), .val (.int p5), .val (.ref b2), .val (.int v334), .val (.ref o340), .val (.ref b347), .unset] [])) t
    refine XS.aload X75.here hx rfl (hb hby at_352) rfl rfl ?_
    show Steps p.tables e below (T75.setTop (mkF m 354 #[.val (.long q0), .second, .val (.long q1), .second, .val (.long q2), .second, .val (.long q3), .second, .val (.int p4), .val (.int p5), .val (.ref b2), .val (.int v334), .val (.ref o340), .val (.ref b347), .unset] [(.ref o340)])) t
    refine st84.trans ?_
    show Steps p.tables e below (T84.setTop (mkF m 357 #[.val (.long q0), .second, .val (.long q1), .second, .val (.long q2), .second, .val (.long q3), .second, .val (.int p4), .val (.int p5), .val (.ref b2), .val (.int v334), .val (.ref o340), .val (.ref b347), .unset] [(.int (Nat.toInt32 n))])) t
    refine XS.iload X84.here hx rfl (hb hby at_357) rfl ?_
    exact kt
  obtain ⟨jx359, pcx359, Lx359, Sx359, T138, lc139, hjx359, X140, e141, N142, hdx359, K143⟩ : ∃ (jx359 : Int32) (pcx359 : Nat) (Lx359 : Array Slot) (Sx359 : List Value) (T138 : State) (lc139 : List Loc), jx359 = (if (Nat.toInt32 n) = v334 then (if (Nat.toInt32 n) = v334 then (if (f321 (((p5 &&& (2147483647 : Int32)) % v334)).toNatClampNeg) = (fRef q0 q1 q2 q3 ((p5 &&& (2147483647 : Int32)) % v334)) then (if (f321 ((0 : Int32)).toNatClampNeg) = (fRef q0 q1 q2 q3 (0 : Int32)) then (if (f321 ((v334 - (1 : Int32))).toNatClampNeg) = (fRef q0 q1 q2 q3 (v334 - (1 : Int32))) then (if (f321 (((p5 &&& (2147483647 : Int32)) % v334)).toNatClampNeg) = (fRef q0 q1 q2 q3 ((p5 &&& (2147483647 : Int32)) % v334)) then (if (f321 ((31 : Int32)).toNatClampNeg) = (fRef q0 q1 q2 q3 (31 : Int32)) then (1 : Int32) else (0 : Int32)) else (0 : Int32)) else (0 : Int32)) else (0 : Int32)) else (0 : Int32)) else (0 : Int32)) else (0 : Int32)) ∧ Stand p l e room_1 s m #[(.long q0), (.long q1), (.long q2), (.long q3), (.int p4), (.int p5)] below meth c T138 lc139 4 97 ∧ T138.heap = h75 ∧ Fr n0 lc139 ∧ decode c.code pcx359 = .ok (.ireturn, 1) ∧ ∀ t, Steps p.tables e below (T138.setTop (mkF m pcx359 Lx359 ((.int jx359) :: Sx359))) t → P0 t := by
    by_cases hc359 : (Nat.toInt32 n) = v334
    · have K86 : ∀ t, Steps p.tables e below (T84.setTop (mkF m 367 #[.val (.long q0), .second, .val (.long q1), .second, .val (.long q2), .second, .val (.long q3), .second, .val (.int p4), .val (.int p5), .val (.ref b2), .val (.int v334), .val (.ref o340), .val (.ref b347), .unset] [(.int v334), (.int (Nat.toInt32 n))])) t → P0 t := by
        intro t kt
        refine K85 t ?_
        show Steps p.tables e below (T84.setTop (mkF m 359 #[.val (.long q0), .second, .val (.long q1), .second, .val (.long q2), .second, .val (.long q3), .second, .val (.int p4), .val (.int p5), .val (.ref b2), .val (.int v334), .val (.ref o340), .val (.ref b347), .unset] [(.int v334), (.int (Nat.toInt32 n))])) t
        refine XS.icmpNo X84.here hx rfl (hb hby at_359) rfl (teq hc359).2 ?_
        show Steps p.tables e below (T84.setTop (mkF m 362 #[.val (.long q0), .second, .val (.long q1), .second, .val (.long q2), .second, .val (.long q3), .second, .val (.int p4), .val (.int p5), .val (.ref b2), .val (.int v334), .val (.ref o340), .val (.ref b347), .unset] [])) t
        refine XS.aload X84.here hx rfl (hb hby at_362) rfl rfl ?_
        show Steps p.tables e below (T84.setTop (mkF m 364 #[.val (.long q0), .second, .val (.long q1), .second, .val (.long q2), .second, .val (.long q3), .second, .val (.int p4), .val (.int p5), .val (.ref b2), .val (.int v334), .val (.ref o340), .val (.ref b347), .unset] [(.ref b347)])) t
        refine lnIA X84 hx hZ e84 F77 (z := (Nat.toInt32 n)) rfl (g := (mkF m 364 #[.val (.long q0), .second, .val (.long q1), .second, .val (.long q2), .second, .val (.long q3), .second, .val (.int p4), .val (.int p5), .val (.ref b2), .val (.int v334), .val (.ref o340), .val (.ref b347), .unset] [(.ref b347)])) rfl rfl (hb hby at_364) _ ?_
        show Steps p.tables e below (T84.setTop (mkF m 365 #[.val (.long q0), .second, .val (.long q1), .second, .val (.long q2), .second, .val (.long q3), .second, .val (.int p4), .val (.int p5), .val (.ref b2), .val (.int v334), .val (.ref o340), .val (.ref b347), .unset] [(.int (Nat.toInt32 n))])) t
        refine XS.iload X84.here hx rfl (hb hby at_365) rfl ?_
        exact kt
      obtain ⟨jx367, pcx367, Lx367, Sx367, T131, lc132, hjx367, X133, e134, N135, hdx367, K136⟩ : ∃ (jx367 : Int32) (pcx367 : Nat) (Lx367 : Array Slot) (Sx367 : List Value) (T131 : State) (lc132 : List Loc), jx367 = (if (Nat.toInt32 n) = v334 then (if (f321 (((p5 &&& (2147483647 : Int32)) % v334)).toNatClampNeg) = (fRef q0 q1 q2 q3 ((p5 &&& (2147483647 : Int32)) % v334)) then (if (f321 ((0 : Int32)).toNatClampNeg) = (fRef q0 q1 q2 q3 (0 : Int32)) then (if (f321 ((v334 - (1 : Int32))).toNatClampNeg) = (fRef q0 q1 q2 q3 (v334 - (1 : Int32))) then (if (f321 (((p5 &&& (2147483647 : Int32)) % v334)).toNatClampNeg) = (fRef q0 q1 q2 q3 ((p5 &&& (2147483647 : Int32)) % v334)) then (if (f321 ((31 : Int32)).toNatClampNeg) = (fRef q0 q1 q2 q3 (31 : Int32)) then (1 : Int32) else (0 : Int32)) else (0 : Int32)) else (0 : Int32)) else (0 : Int32)) else (0 : Int32)) else (0 : Int32)) ∧ Stand p l e room_1 s m #[(.long q0), (.long q1), (.long q2), (.long q3), (.int p4), (.int p5)] below meth c T131 lc132 4 97 ∧ T131.heap = h75 ∧ Fr n0 lc132 ∧ decode c.code pcx367 = .ok (.ireturn, 1) ∧ ∀ t, Steps p.tables e below (T131.setTop (mkF m pcx367 Lx367 ((.int jx367) :: Sx367))) t → P0 t := by
        by_cases hc367 : (Nat.toInt32 n) = v334
        · have K87 : ∀ t, Steps p.tables e below (T84.setTop (mkF m 382 #[.val (.long q0), .second, .val (.long q1), .second, .val (.long q2), .second, .val (.long q3), .second, .val (.int p4), .val (.int p5), .val (.ref b2), .val (.int v334), .val (.ref o340), .val (.ref b347), .val (.int ((p5 &&& (2147483647 : Int32)) % v334))] [])) t → P0 t := by
            intro t kt
            refine K86 t ?_
            show Steps p.tables e below (T84.setTop (mkF m 367 #[.val (.long q0), .second, .val (.long q1), .second, .val (.long q2), .second, .val (.long q3), .second, .val (.int p4), .val (.int p5), .val (.ref b2), .val (.int v334), .val (.ref o340), .val (.ref b347), .unset] [(.int v334), (.int (Nat.toInt32 n))])) t
            refine XS.icmpYes X84.here hx rfl (pc0 := 367) (pc' := 372) rfl (hb hby at_367) rfl (teq hc367).1 (by decide) (by decide) ?_
            show Steps p.tables e below (T84.setTop (mkF m 372 #[.val (.long q0), .second, .val (.long q1), .second, .val (.long q2), .second, .val (.long q3), .second, .val (.int p4), .val (.int p5), .val (.ref b2), .val (.int v334), .val (.ref o340), .val (.ref b347), .unset] [])) t
            refine XS.iload X84.here hx rfl (hb hby at_372) rfl ?_
            show Steps p.tables e below (T84.setTop (mkF m 374 #[.val (.long q0), .second, .val (.long q1), .second, .val (.long q2), .second, .val (.long q3), .second, .val (.int p4), .val (.int p5), .val (.ref b2), .val (.int v334), .val (.ref o340), .val (.ref b347), .unset] [(.int p5)])) t
            refine X84.ldcInt hx hown (mvT hZ (hw _ (List.mem_of_getElem? (i := 1) rfl))) (g := (mkF m 374 #[.val (.long q0), .second, .val (.long q1), .second, .val (.long q2), .second, .val (.long q3), .second, .val (.int p4), .val (.int p5), .val (.ref b2), .val (.int v334), .val (.ref o340), .val (.ref b347), .unset] [(.int p5)])) rfl (hb hby at_374) _ ?_
            show Steps p.tables e below (T84.setTop (mkF m 376 #[.val (.long q0), .second, .val (.long q1), .second, .val (.long q2), .second, .val (.long q3), .second, .val (.int p4), .val (.int p5), .val (.ref b2), .val (.int v334), .val (.ref o340), .val (.ref b347), .unset] [(.int (2147483647 : Int32)), (.int p5)])) t
            refine XS.iand X84.here hx rfl (hb hby at_376) rfl ?_
            show Steps p.tables e below (T84.setTop (mkF m 377 #[.val (.long q0), .second, .val (.long q1), .second, .val (.long q2), .second, .val (.long q3), .second, .val (.int p4), .val (.int p5), .val (.ref b2), .val (.int v334), .val (.ref o340), .val (.ref b347), .unset] [(.int (p5 &&& (2147483647 : Int32)))])) t
            refine XS.iload X84.here hx rfl (hb hby at_377) rfl ?_
            show Steps p.tables e below (T84.setTop (mkF m 379 #[.val (.long q0), .second, .val (.long q1), .second, .val (.long q2), .second, .val (.long q3), .second, .val (.int p4), .val (.int p5), .val (.ref b2), .val (.int v334), .val (.ref o340), .val (.ref b347), .unset] [(.int v334), (.int (p5 &&& (2147483647 : Int32)))])) t
            refine iremM X84 hx rfl (hb hby at_379) rfl (own_nzn hn hn4 hn32) ?_
            show Steps p.tables e below (T84.setTop (mkF m 380 #[.val (.long q0), .second, .val (.long q1), .second, .val (.long q2), .second, .val (.long q3), .second, .val (.int p4), .val (.int p5), .val (.ref b2), .val (.int v334), .val (.ref o340), .val (.ref b347), .unset] [(.int ((p5 &&& (2147483647 : Int32)) % v334))])) t
            refine XS.istore X84.here hx rfl (hb hby at_380) rfl (l' := #[.val (.long q0), .second, .val (.long q1), .second, .val (.long q2), .second, .val (.long q3), .second, .val (.int p4), .val (.int p5), .val (.ref b2), .val (.int v334), .val (.ref o340), .val (.ref b347), .val (.int ((p5 &&& (2147483647 : Int32)) % v334))]) rfl ?_
            exact kt
          obtain ⟨v380, hv380, K88⟩ : ∃ v380 : Int32, v380 = ((p5 &&& (2147483647 : Int32)) % v334) ∧ ∀ t, Steps p.tables e below (T84.setTop (mkF m 382 #[.val (.long q0), .second, .val (.long q1), .second, .val (.long q2), .second, .val (.long q3), .second, .val (.int p4), .val (.int p5), .val (.ref b2), .val (.int v334), .val (.ref o340), .val (.ref b347), .val (.int v380)] [])) t → P0 t := ⟨_, rfl, K87⟩
          obtain ⟨_, _, ⟨T89, L89, k89, n89⟩, -, X89, ⟨Lc89, hQ89, l89, y89, z89⟩, st89⟩ := Jvm.LawKit.callS X84 hx (y := (⟨"com/example/trimhash/trimhash/HashPrefixOfPinLaw", "ref", "(JJJJI)B"⟩ : MethodName)) hown (mvT hZ (hw _ (List.mem_of_getElem? (i := 47) rfl))) (mvT hZ (hw _ (List.mem_of_getElem? (i := 48) rfl))) (mvT hZ (hw _ (List.mem_of_getElem? (i := 49) rfl))) (mvT hZ (hw _ (List.mem_of_getElem? (i := 50) rfl))) (by decide) (backOf (W := 1) (rm_ref l Z a0 hw [] q0 q1 q2 q3 v380 h75 n0 Z75 ) hZ (hw _ (List.mem_of_getElem? (i := 50) rfl)) (hw _ (List.mem_of_getElem? (i := 49) rfl)) (by decide) (by decide)) (g := (mkF m 395 #[.val (.long q0), .second, .val (.long q1), .second, .val (.long q2), .second, .val (.long q3), .second, .val (.int p4), .val (.int p5), .val (.ref b2), .val (.int v334), .val (.ref o340), .val (.ref b347), .val (.int v380)] [(.int v380), (.long q3), (.long q2), (.long q1), (.long q0), (.int (f321 (v380).toNatClampNeg))])) rfl (by rw [hml]; rfl) (argsL := [(.long q0), (.long q1), (.long q2), (.long q3), (.int v380)]) (rest := [(.int (f321 (v380).toNatClampNeg))]) (lenOf law_pd3 rfl) rfl (by show 2 * 0 + _ ≤ _; exact Nat.le_of_eq rfl) (hb hby at_395) (fun _ _ => ⟨rfl, e84, (by decide : 4 + 0 ≤ _), (by decide : 97 + 0 ≤ _)⟩)
          dsimp only [Pt.U, Pt.locs, Pt.cells, Pt.slots] at X89 l89 y89 z89 st89 hQ89
          rw [l89, y89, z89] at X89
          obtain ⟨rfl, N89q, e89⟩ := hQ89
          have N89 := Fr.app N84 N89q
          have K90 : ∀ t, Steps p.tables e below (T89.setTop (mkF m 398 #[.val (.long q0), .second, .val (.long q1), .second, .val (.long q2), .second, .val (.long q3), .second, .val (.int p4), .val (.int p5), .val (.ref b2), .val (.int v334), .val (.ref o340), .val (.ref b347), .val (.int v380)] [(.int (fRef q0 q1 q2 q3 v380)), (.int (f321 (v380).toNatClampNeg))])) t → P0 t := by
            intro t kt
            refine K88 t ?_
            show Steps p.tables e below (T84.setTop (mkF m 382 #[.val (.long q0), .second, .val (.long q1), .second, .val (.long q2), .second, .val (.long q3), .second, .val (.int p4), .val (.int p5), .val (.ref b2), .val (.int v334), .val (.ref o340), .val (.ref b347), .val (.int v380)] [])) t
            refine XS.aload X84.here hx rfl (hb hby at_382) rfl rfl ?_
            show Steps p.tables e below (T84.setTop (mkF m 384 #[.val (.long q0), .second, .val (.long q1), .second, .val (.long q2), .second, .val (.long q3), .second, .val (.int p4), .val (.int p5), .val (.ref b2), .val (.int v334), .val (.ref o340), .val (.ref b347), .val (.int v380)] [(.ref b347)])) t
            refine XS.iload X84.here hx rfl (hb hby at_384) rfl ?_
            show Steps p.tables e below (T84.setTop (mkF m 386 #[.val (.long q0), .second, .val (.long q1), .second, .val (.long q2), .second, .val (.long q3), .second, .val (.int p4), .val (.int p5), .val (.ref b2), .val (.int v334), .val (.ref o340), .val (.ref b347), .val (.int v380)] [(.int v380), (.ref b347)])) t
            refine ldBA X84 hx hZ e84 F77 (j := v380) (own_ini hn hn4 hn32 hv380) (g := (mkF m 386 #[.val (.long q0), .second, .val (.long q1), .second, .val (.long q2), .second, .val (.long q3), .second, .val (.int p4), .val (.int p5), .val (.ref b2), .val (.int v334), .val (.ref o340), .val (.ref b347), .val (.int v380)] [(.int v380), (.ref b347)])) rfl rfl (hb hby at_386) _ ?_
            show Steps p.tables e below (T84.setTop (mkF m 387 #[.val (.long q0), .second, .val (.long q1), .second, .val (.long q2), .second, .val (.long q3), .second, .val (.int p4), .val (.int p5), .val (.ref b2), .val (.int v334), .val (.ref o340), .val (.ref b347), .val (.int v380)] [(.int (f321 (v380).toNatClampNeg))])) t
            refine XS.lloadN X84.here hx rfl (hb hby at_387) rfl ?_
            show Steps p.tables e below (T84.setTop (mkF m 388 #[.val (.long q0), .second, .val (.long q1), .second, .val (.long q2), .second, .val (.long q3), .second, .val (.int p4), .val (.int p5), .val (.ref b2), .val (.int v334), .val (.ref o340), .val (.ref b347), .val (.int v380)] [(.long q0), (.int (f321 (v380).toNatClampNeg))])) t
            refine XS.lloadN X84.here hx rfl (hb hby at_388) rfl ?_
            show Steps p.tables e below (T84.setTop (mkF m 389 #[.val (.long q0), .second, .val (.long q1), .second, .val (.long q2), .second, .val (.long q3), .second, .val (.int p4), .val (.int p5), .val (.ref b2), .val (.int v334), .val (.ref o340), .val (.ref b347), .val (.int v380)] [(.long q1), (.long q0), (.int (f321 (v380).toNatClampNeg))])) t
            refine XS.lload X84.here hx rfl (hb hby at_389) rfl ?_
            show Steps p.tables e below (T84.setTop (mkF m 391 #[.val (.long q0), .second, .val (.long q1), .second, .val (.long q2), .second, .val (.long q3), .second, .val (.int p4), .val (.int p5), .val (.ref b2), .val (.int v334), .val (.ref o340), .val (.ref b347), .val (.int v380)] [(.long q2), (.long q1), (.long q0), (.int (f321 (v380).toNatClampNeg))])) t
            refine XS.lload X84.here hx rfl (hb hby at_391) rfl ?_
            show Steps p.tables e below (T84.setTop (mkF m 393 #[.val (.long q0), .second, .val (.long q1), .second, .val (.long q2), .second, .val (.long q3), .second, .val (.int p4), .val (.int p5), .val (.ref b2), .val (.int v334), .val (.ref o340), .val (.ref b347), .val (.int v380)] [(.long q3), (.long q2), (.long q1), (.long q0), (.int (f321 (v380).toNatClampNeg))])) t
            refine XS.iload X84.here hx rfl (hb hby at_393) rfl ?_
            show Steps p.tables e below (T84.setTop (mkF m 395 #[.val (.long q0), .second, .val (.long q1), .second, .val (.long q2), .second, .val (.long q3), .second, .val (.int p4), .val (.int p5), .val (.ref b2), .val (.int v334), .val (.ref o340), .val (.ref b347), .val (.int v380)] [(.int v380), (.long q3), (.long q2), (.long q1), (.long q0), (.int (f321 (v380).toNatClampNeg))])) t
            refine st89 _ ?_
            exact kt
          obtain ⟨j484_s0_4, T124, lc125, hj484_s0_4, X126, e127, N128, K129⟩ : ∃ (j484_s0_4 : Int32) (T124 : State) (lc125 : List Loc), j484_s0_4 = (if (f321 (v380).toNatClampNeg) = (fRef q0 q1 q2 q3 v380) then (if (f321 ((0 : Int32)).toNatClampNeg) = (fRef q0 q1 q2 q3 (0 : Int32)) then (if (f321 ((v334 - (1 : Int32))).toNatClampNeg) = (fRef q0 q1 q2 q3 (v334 - (1 : Int32))) then (if (f321 (v380).toNatClampNeg) = (fRef q0 q1 q2 q3 v380) then (if (f321 ((31 : Int32)).toNatClampNeg) = (fRef q0 q1 q2 q3 (31 : Int32)) then (1 : Int32) else (0 : Int32)) else (0 : Int32)) else (0 : Int32)) else (0 : Int32)) else (0 : Int32)) ∧ Stand p l e room_1 s m #[(.long q0), (.long q1), (.long q2), (.long q3), (.int p4), (.int p5)] below meth c T124 lc125 4 97 ∧ T124.heap = h75 ∧ Fr n0 lc125 ∧ ∀ t, Steps p.tables e below (T124.setTop (mkF m 484 #[.val (.long q0), .second, .val (.long q1), .second, .val (.long q2), .second, .val (.long q3), .second, .val (.int p4), .val (.int p5), .val (.ref b2), .val (.int v334), .val (.ref o340), .val (.ref b347), .val (.int v380)] [(.int j484_s0_4)])) t → P0 t := by
            by_cases hc398 : (f321 (v380).toNatClampNeg) = (fRef q0 q1 q2 q3 v380)
            · obtain ⟨_, _, ⟨T91, L91, k91, n91⟩, -, X91, ⟨Lc91, hQ91, l91, y91, z91⟩, st91⟩ := Jvm.LawKit.callS X89 hx (y := (⟨"com/example/trimhash/trimhash/HashPrefixOfPinLaw", "ref", "(JJJJI)B"⟩ : MethodName)) hown (mvT hZ (hw _ (List.mem_of_getElem? (i := 47) rfl))) (mvT hZ (hw _ (List.mem_of_getElem? (i := 48) rfl))) (mvT hZ (hw _ (List.mem_of_getElem? (i := 49) rfl))) (mvT hZ (hw _ (List.mem_of_getElem? (i := 50) rfl))) (by decide) (backOf (W := 1) (rm_ref l Z a0 hw [] q0 q1 q2 q3 (0 : Int32) h75 n0 Z75 ) hZ (hw _ (List.mem_of_getElem? (i := 50) rfl)) (hw _ (List.mem_of_getElem? (i := 49) rfl)) (by decide) (by decide)) (g := (mkF m 412 #[.val (.long q0), .second, .val (.long q1), .second, .val (.long q2), .second, .val (.long q3), .second, .val (.int p4), .val (.int p5), .val (.ref b2), .val (.int v334), .val (.ref o340), .val (.ref b347), .val (.int v380)] [(.int (0 : Int32)), (.long q3), (.long q2), (.long q1), (.long q0), (.int (f321 ((0 : Int32)).toNatClampNeg))])) rfl (by rw [hml]; rfl) (argsL := [(.long q0), (.long q1), (.long q2), (.long q3), (.int (0 : Int32))]) (rest := [(.int (f321 ((0 : Int32)).toNatClampNeg))]) (lenOf law_pd3 rfl) rfl (by show 2 * 0 + _ ≤ _; exact Nat.le_of_eq rfl) (hb hby at_412) (fun _ _ => ⟨rfl, e89, (by decide : 4 + 0 ≤ _), (by decide : 97 + 0 ≤ _)⟩)
              dsimp only [Pt.U, Pt.locs, Pt.cells, Pt.slots] at X91 l91 y91 z91 st91 hQ91
              rw [l91, y91, z91] at X91
              obtain ⟨rfl, N91q, e91⟩ := hQ91
              have N91 := Fr.app N89 N91q
              have K92 : ∀ t, Steps p.tables e below (T91.setTop (mkF m 415 #[.val (.long q0), .second, .val (.long q1), .second, .val (.long q2), .second, .val (.long q3), .second, .val (.int p4), .val (.int p5), .val (.ref b2), .val (.int v334), .val (.ref o340), .val (.ref b347), .val (.int v380)] [(.int (fRef q0 q1 q2 q3 (0 : Int32))), (.int (f321 ((0 : Int32)).toNatClampNeg))])) t → P0 t := by
                intro t kt
                refine K90 t ?_
                show Steps p.tables e below (T89.setTop (mkF m 398 #[.val (.long q0), .second, .val (.long q1), .second, .val (.long q2), .second, .val (.long q3), .second, .val (.int p4), .val (.int p5), .val (.ref b2), .val (.int v334), .val (.ref o340), .val (.ref b347), .val (.int v380)] [(.int (fRef q0 q1 q2 q3 v380)), (.int (f321 (v380).toNatClampNeg))])) t
                refine XS.icmpNo X89.here hx rfl (hb hby at_398) rfl (teq hc398).2 ?_
                show Steps p.tables e below (T89.setTop (mkF m 401 #[.val (.long q0), .second, .val (.long q1), .second, .val (.long q2), .second, .val (.long q3), .second, .val (.int p4), .val (.int p5), .val (.ref b2), .val (.int v334), .val (.ref o340), .val (.ref b347), .val (.int v380)] [])) t
                refine XS.aload X89.here hx rfl (hb hby at_401) rfl rfl ?_
                show Steps p.tables e below (T89.setTop (mkF m 403 #[.val (.long q0), .second, .val (.long q1), .second, .val (.long q2), .second, .val (.long q3), .second, .val (.int p4), .val (.int p5), .val (.ref b2), .val (.int v334), .val (.ref o340), .val (.ref b347), .val (.int v380)] [(.ref b347)])) t
                refine XS.iconst X89.here hx rfl (hb hby at_403) ?_
                show Steps p.tables e below (T89.setTop (mkF m 404 #[.val (.long q0), .second, .val (.long q1), .second, .val (.long q2), .second, .val (.long q3), .second, .val (.int p4), .val (.int p5), .val (.ref b2), .val (.int v334), .val (.ref o340), .val (.ref b347), .val (.int v380)] [(.int (0 : Int32)), (.ref b347)])) t
                refine ldBA X89 hx hZ e89 F77 (j := (0 : Int32)) (own_in0 hn4) (g := (mkF m 404 #[.val (.long q0), .second, .val (.long q1), .second, .val (.long q2), .second, .val (.long q3), .second, .val (.int p4), .val (.int p5), .val (.ref b2), .val (.int v334), .val (.ref o340), .val (.ref b347), .val (.int v380)] [(.int (0 : Int32)), (.ref b347)])) rfl rfl (hb hby at_404) _ ?_
                show Steps p.tables e below (T89.setTop (mkF m 405 #[.val (.long q0), .second, .val (.long q1), .second, .val (.long q2), .second, .val (.long q3), .second, .val (.int p4), .val (.int p5), .val (.ref b2), .val (.int v334), .val (.ref o340), .val (.ref b347), .val (.int v380)] [(.int (f321 ((0 : Int32)).toNatClampNeg))])) t
                refine XS.lloadN X89.here hx rfl (hb hby at_405) rfl ?_
                show Steps p.tables e below (T89.setTop (mkF m 406 #[.val (.long q0), .second, .val (.long q1), .second, .val (.long q2), .second, .val (.long q3), .second, .val (.int p4), .val (.int p5), .val (.ref b2), .val (.int v334), .val (.ref o340), .val (.ref b347), .val (.int v380)] [(.long q0), (.int (f321 ((0 : Int32)).toNatClampNeg))])) t
                refine XS.lloadN X89.here hx rfl (hb hby at_406) rfl ?_
                show Steps p.tables e below (T89.setTop (mkF m 407 #[.val (.long q0), .second, .val (.long q1), .second, .val (.long q2), .second, .val (.long q3), .second, .val (.int p4), .val (.int p5), .val (.ref b2), .val (.int v334), .val (.ref o340), .val (.ref b347), .val (.int v380)] [(.long q1), (.long q0), (.int (f321 ((0 : Int32)).toNatClampNeg))])) t
                refine XS.lload X89.here hx rfl (hb hby at_407) rfl ?_
                show Steps p.tables e below (T89.setTop (mkF m 409 #[.val (.long q0), .second, .val (.long q1), .second, .val (.long q2), .second, .val (.long q3), .second, .val (.int p4), .val (.int p5), .val (.ref b2), .val (.int v334), .val (.ref o340), .val (.ref b347), .val (.int v380)] [(.long q2), (.long q1), (.long q0), (.int (f321 ((0 : Int32)).toNatClampNeg))])) t
                refine XS.lload X89.here hx rfl (hb hby at_409) rfl ?_
                show Steps p.tables e below (T89.setTop (mkF m 411 #[.val (.long q0), .second, .val (.long q1), .second, .val (.long q2), .second, .val (.long q3), .second, .val (.int p4), .val (.int p5), .val (.ref b2), .val (.int v334), .val (.ref o340), .val (.ref b347), .val (.int v380)] [(.long q3), (.long q2), (.long q1), (.long q0), (.int (f321 ((0 : Int32)).toNatClampNeg))])) t
                refine XS.iconst X89.here hx rfl (hb hby at_411) ?_
                show Steps p.tables e below (T89.setTop (mkF m 412 #[.val (.long q0), .second, .val (.long q1), .second, .val (.long q2), .second, .val (.long q3), .second, .val (.int p4), .val (.int p5), .val (.ref b2), .val (.int v334), .val (.ref o340), .val (.ref b347), .val (.int v380)] [(.int (0 : Int32)), (.long q3), (.long q2), (.long q1), (.long q0), (.int (f321 ((0 : Int32)).toNatClampNeg))])) t
                refine st91 _ ?_
                exact kt
              obtain ⟨j484_s0_3, T117, lc118, hj484_s0_3, X119, e120, N121, K122⟩ : ∃ (j484_s0_3 : Int32) (T117 : State) (lc118 : List Loc), j484_s0_3 = (if (f321 ((0 : Int32)).toNatClampNeg) = (fRef q0 q1 q2 q3 (0 : Int32)) then (if (f321 ((v334 - (1 : Int32))).toNatClampNeg) = (fRef q0 q1 q2 q3 (v334 - (1 : Int32))) then (if (f321 (v380).toNatClampNeg) = (fRef q0 q1 q2 q3 v380) then (if (f321 ((31 : Int32)).toNatClampNeg) = (fRef q0 q1 q2 q3 (31 : Int32)) then (1 : Int32) else (0 : Int32)) else (0 : Int32)) else (0 : Int32)) else (0 : Int32)) ∧ Stand p l e room_1 s m #[(.long q0), (.long q1), (.long q2), (.long q3), (.int p4), (.int p5)] below meth c T117 lc118 4 97 ∧ T117.heap = h75 ∧ Fr n0 lc118 ∧ ∀ t, Steps p.tables e below (T117.setTop (mkF m 484 #[.val (.long q0), .second, .val (.long q1), .second, .val (.long q2), .second, .val (.long q3), .second, .val (.int p4), .val (.int p5), .val (.ref b2), .val (.int v334), .val (.ref o340), .val (.ref b347), .val (.int v380)] [(.int j484_s0_3)])) t → P0 t := by
                by_cases hc415 : (f321 ((0 : Int32)).toNatClampNeg) = (fRef q0 q1 q2 q3 (0 : Int32))
                · obtain ⟨_, _, ⟨T93, L93, k93, n93⟩, -, X93, ⟨Lc93, hQ93, l93, y93, z93⟩, st93⟩ := Jvm.LawKit.callS X91 hx (y := (⟨"com/example/trimhash/trimhash/HashPrefixOfPinLaw", "ref", "(JJJJI)B"⟩ : MethodName)) hown (mvT hZ (hw _ (List.mem_of_getElem? (i := 47) rfl))) (mvT hZ (hw _ (List.mem_of_getElem? (i := 48) rfl))) (mvT hZ (hw _ (List.mem_of_getElem? (i := 49) rfl))) (mvT hZ (hw _ (List.mem_of_getElem? (i := 50) rfl))) (by decide) (backOf (W := 1) (rm_ref l Z a0 hw [] q0 q1 q2 q3 (v334 - (1 : Int32)) h75 n0 Z75 ) hZ (hw _ (List.mem_of_getElem? (i := 50) rfl)) (hw _ (List.mem_of_getElem? (i := 49) rfl)) (by decide) (by decide)) (g := (mkF m 435 #[.val (.long q0), .second, .val (.long q1), .second, .val (.long q2), .second, .val (.long q3), .second, .val (.int p4), .val (.int p5), .val (.ref b2), .val (.int v334), .val (.ref o340), .val (.ref b347), .val (.int v380)] [(.int (v334 - (1 : Int32))), (.long q3), (.long q2), (.long q1), (.long q0), (.int (f321 ((v334 - (1 : Int32))).toNatClampNeg))])) rfl (by rw [hml]; rfl) (argsL := [(.long q0), (.long q1), (.long q2), (.long q3), (.int (v334 - (1 : Int32)))]) (rest := [(.int (f321 ((v334 - (1 : Int32))).toNatClampNeg))]) (lenOf law_pd3 rfl) rfl (by show 2 * 0 + _ ≤ _; exact Nat.le_of_eq rfl) (hb hby at_435) (fun _ _ => ⟨rfl, e91, (by decide : 4 + 0 ≤ _), (by decide : 97 + 0 ≤ _)⟩)
                  dsimp only [Pt.U, Pt.locs, Pt.cells, Pt.slots] at X93 l93 y93 z93 st93 hQ93
                  rw [l93, y93, z93] at X93
                  obtain ⟨rfl, N93q, e93⟩ := hQ93
                  have N93 := Fr.app N91 N93q
                  have K94 : ∀ t, Steps p.tables e below (T93.setTop (mkF m 438 #[.val (.long q0), .second, .val (.long q1), .second, .val (.long q2), .second, .val (.long q3), .second, .val (.int p4), .val (.int p5), .val (.ref b2), .val (.int v334), .val (.ref o340), .val (.ref b347), .val (.int v380)] [(.int (fRef q0 q1 q2 q3 (v334 - (1 : Int32)))), (.int (f321 ((v334 - (1 : Int32))).toNatClampNeg))])) t → P0 t := by
                    intro t kt
                    refine K92 t ?_
                    show Steps p.tables e below (T91.setTop (mkF m 415 #[.val (.long q0), .second, .val (.long q1), .second, .val (.long q2), .second, .val (.long q3), .second, .val (.int p4), .val (.int p5), .val (.ref b2), .val (.int v334), .val (.ref o340), .val (.ref b347), .val (.int v380)] [(.int (fRef q0 q1 q2 q3 (0 : Int32))), (.int (f321 ((0 : Int32)).toNatClampNeg))])) t
                    refine XS.icmpNo X91.here hx rfl (hb hby at_415) rfl (teq hc415).2 ?_
                    show Steps p.tables e below (T91.setTop (mkF m 418 #[.val (.long q0), .second, .val (.long q1), .second, .val (.long q2), .second, .val (.long q3), .second, .val (.int p4), .val (.int p5), .val (.ref b2), .val (.int v334), .val (.ref o340), .val (.ref b347), .val (.int v380)] [])) t
                    refine XS.aload X91.here hx rfl (hb hby at_418) rfl rfl ?_
                    show Steps p.tables e below (T91.setTop (mkF m 420 #[.val (.long q0), .second, .val (.long q1), .second, .val (.long q2), .second, .val (.long q3), .second, .val (.int p4), .val (.int p5), .val (.ref b2), .val (.int v334), .val (.ref o340), .val (.ref b347), .val (.int v380)] [(.ref b347)])) t
                    refine XS.iload X91.here hx rfl (hb hby at_420) rfl ?_
                    show Steps p.tables e below (T91.setTop (mkF m 422 #[.val (.long q0), .second, .val (.long q1), .second, .val (.long q2), .second, .val (.long q3), .second, .val (.int p4), .val (.int p5), .val (.ref b2), .val (.int v334), .val (.ref o340), .val (.ref b347), .val (.int v380)] [(.int v334), (.ref b347)])) t
                    refine XS.iconst X91.here hx rfl (hb hby at_422) ?_
                    show Steps p.tables e below (T91.setTop (mkF m 423 #[.val (.long q0), .second, .val (.long q1), .second, .val (.long q2), .second, .val (.long q3), .second, .val (.int p4), .val (.int p5), .val (.ref b2), .val (.int v334), .val (.ref o340), .val (.ref b347), .val (.int v380)] [(.int (1 : Int32)), (.int v334), (.ref b347)])) t
                    refine XS.isub X91.here hx rfl (hb hby at_423) rfl ?_
                    show Steps p.tables e below (T91.setTop (mkF m 424 #[.val (.long q0), .second, .val (.long q1), .second, .val (.long q2), .second, .val (.long q3), .second, .val (.int p4), .val (.int p5), .val (.ref b2), .val (.int v334), .val (.ref o340), .val (.ref b347), .val (.int v380)] [(.int (v334 - (1 : Int32))), (.ref b347)])) t
                    refine ldBA X91 hx hZ e91 F77 (j := (v334 - (1 : Int32))) (own_inl hn hn4 hn32) (g := (mkF m 424 #[.val (.long q0), .second, .val (.long q1), .second, .val (.long q2), .second, .val (.long q3), .second, .val (.int p4), .val (.int p5), .val (.ref b2), .val (.int v334), .val (.ref o340), .val (.ref b347), .val (.int v380)] [(.int (v334 - (1 : Int32))), (.ref b347)])) rfl rfl (hb hby at_424) _ ?_
                    show Steps p.tables e below (T91.setTop (mkF m 425 #[.val (.long q0), .second, .val (.long q1), .second, .val (.long q2), .second, .val (.long q3), .second, .val (.int p4), .val (.int p5), .val (.ref b2), .val (.int v334), .val (.ref o340), .val (.ref b347), .val (.int v380)] [(.int (f321 ((v334 - (1 : Int32))).toNatClampNeg))])) t
                    refine XS.lloadN X91.here hx rfl (hb hby at_425) rfl ?_
                    show Steps p.tables e below (T91.setTop (mkF m 426 #[.val (.long q0), .second, .val (.long q1), .second, .val (.long q2), .second, .val (.long q3), .second, .val (.int p4), .val (.int p5), .val (.ref b2), .val (.int v334), .val (.ref o340), .val (.ref b347), .val (.int v380)] [(.long q0), (.int (f321 ((v334 - (1 : Int32))).toNatClampNeg))])) t
                    refine XS.lloadN X91.here hx rfl (hb hby at_426) rfl ?_
                    show Steps p.tables e below (T91.setTop (mkF m 427 #[.val (.long q0), .second, .val (.long q1), .second, .val (.long q2), .second, .val (.long q3), .second, .val (.int p4), .val (.int p5), .val (.ref b2), .val (.int v334), .val (.ref o340), .val (.ref b347), .val (.int v380)] [(.long q1), (.long q0), (.int (f321 ((v334 - (1 : Int32))).toNatClampNeg))])) t
                    refine XS.lload X91.here hx rfl (hb hby at_427) rfl ?_
                    show Steps p.tables e below (T91.setTop (mkF m 429 #[.val (.long q0), .second, .val (.long q1), .second, .val (.long q2), .second, .val (.long q3), .second, .val (.int p4), .val (.int p5), .val (.ref b2), .val (.int v334), .val (.ref o340), .val (.ref b347), .val (.int v380)] [(.long q2), (.long q1), (.long q0), (.int (f321 ((v334 - (1 : Int32))).toNatClampNeg))])) t
                    refine XS.lload X91.here hx rfl (hb hby at_429) rfl ?_
                    show Steps p.tables e below (T91.setTop (mkF m 431 #[.val (.long q0), .second, .val (.long q1), .second, .val (.long q2), .second, .val (.long q3), .second, .val (.int p4), .val (.int p5), .val (.ref b2), .val (.int v334), .val (.ref o340), .val (.ref b347), .val (.int v380)] [(.long q3), (.long q2), (.long q1), (.long q0), (.int (f321 ((v334 - (1 : Int32))).toNatClampNeg))])) t
                    refine XS.iload X91.here hx rfl (hb hby at_431) rfl ?_
                    show Steps p.tables e below (T91.setTop (mkF m 433 #[.val (.long q0), .second, .val (.long q1), .second, .val (.long q2), .second, .val (.long q3), .second, .val (.int p4), .val (.int p5), .val (.ref b2), .val (.int v334), .val (.ref o340), .val (.ref b347), .val (.int v380)] [(.int v334), (.long q3), (.long q2), (.long q1), (.long q0), (.int (f321 ((v334 - (1 : Int32))).toNatClampNeg))])) t
                    refine XS.iconst X91.here hx rfl (hb hby at_433) ?_
                    show Steps p.tables e below (T91.setTop (mkF m 434 #[.val (.long q0), .second, .val (.long q1), .second, .val (.long q2), .second, .val (.long q3), .second, .val (.int p4), .val (.int p5), .val (.ref b2), .val (.int v334), .val (.ref o340), .val (.ref b347), .val (.int v380)] [(.int (1 : Int32)), (.int v334), (.long q3), (.long q2), (.long q1), (.long q0), (.int (f321 ((v334 - (1 : Int32))).toNatClampNeg))])) t
                    refine XS.isub X91.here hx rfl (hb hby at_434) rfl ?_
                    show Steps p.tables e below (T91.setTop (mkF m 435 #[.val (.long q0), .second, .val (.long q1), .second, .val (.long q2), .second, .val (.long q3), .second, .val (.int p4), .val (.int p5), .val (.ref b2), .val (.int v334), .val (.ref o340), .val (.ref b347), .val (.int v380)] [(.int (v334 - (1 : Int32))), (.long q3), (.long q2), (.long q1), (.long q0), (.int (f321 ((v334 - (1 : Int32))).toNatClampNeg))])) t
                    refine st93 _ ?_
                    exact kt
                  obtain ⟨j484_s0_2, T110, lc111, hj484_s0_2, X112, e113, N114, K115⟩ : ∃ (j484_s0_2 : Int32) (T110 : State) (lc111 : List Loc), j484_s0_2 = (if (f321 ((v334 - (1 : Int32))).toNatClampNeg) = (fRef q0 q1 q2 q3 (v334 - (1 : Int32))) then (if (f321 (v380).toNatClampNeg) = (fRef q0 q1 q2 q3 v380) then (if (f321 ((31 : Int32)).toNatClampNeg) = (fRef q0 q1 q2 q3 (31 : Int32)) then (1 : Int32) else (0 : Int32)) else (0 : Int32)) else (0 : Int32)) ∧ Stand p l e room_1 s m #[(.long q0), (.long q1), (.long q2), (.long q3), (.int p4), (.int p5)] below meth c T110 lc111 4 97 ∧ T110.heap = h75 ∧ Fr n0 lc111 ∧ ∀ t, Steps p.tables e below (T110.setTop (mkF m 484 #[.val (.long q0), .second, .val (.long q1), .second, .val (.long q2), .second, .val (.long q3), .second, .val (.int p4), .val (.int p5), .val (.ref b2), .val (.int v334), .val (.ref o340), .val (.ref b347), .val (.int v380)] [(.int j484_s0_2)])) t → P0 t := by
                    by_cases hc438 : (f321 ((v334 - (1 : Int32))).toNatClampNeg) = (fRef q0 q1 q2 q3 (v334 - (1 : Int32)))
                    · obtain ⟨_, _, ⟨T95, L95, k95, n95⟩, -, X95, ⟨Lc95, hQ95, l95, y95, z95⟩, st95⟩ := Jvm.LawKit.callS X93 hx (y := (⟨"com/example/trimhash/trimhash/HashPrefixOfPinLaw", "ref", "(JJJJI)B"⟩ : MethodName)) hown (mvT hZ (hw _ (List.mem_of_getElem? (i := 47) rfl))) (mvT hZ (hw _ (List.mem_of_getElem? (i := 48) rfl))) (mvT hZ (hw _ (List.mem_of_getElem? (i := 49) rfl))) (mvT hZ (hw _ (List.mem_of_getElem? (i := 50) rfl))) (by decide) (backOf (W := 1) (rm_ref l Z a0 hw [] q0 q1 q2 q3 v380 h75 n0 Z75 ) hZ (hw _ (List.mem_of_getElem? (i := 50) rfl)) (hw _ (List.mem_of_getElem? (i := 49) rfl)) (by decide) (by decide)) (g := (mkF m 454 #[.val (.long q0), .second, .val (.long q1), .second, .val (.long q2), .second, .val (.long q3), .second, .val (.int p4), .val (.int p5), .val (.ref b2), .val (.int v334), .val (.ref o340), .val (.ref b347), .val (.int v380)] [(.int v380), (.long q3), (.long q2), (.long q1), (.long q0), (.int (f321 (v380).toNatClampNeg))])) rfl (by rw [hml]; rfl) (argsL := [(.long q0), (.long q1), (.long q2), (.long q3), (.int v380)]) (rest := [(.int (f321 (v380).toNatClampNeg))]) (lenOf law_pd3 rfl) rfl (by show 2 * 0 + _ ≤ _; exact Nat.le_of_eq rfl) (hb hby at_454) (fun _ _ => ⟨rfl, e93, (by decide : 4 + 0 ≤ _), (by decide : 97 + 0 ≤ _)⟩)
                      dsimp only [Pt.U, Pt.locs, Pt.cells, Pt.slots] at X95 l95 y95 z95 st95 hQ95
                      rw [l95, y95, z95] at X95
                      obtain ⟨rfl, N95q, e95⟩ := hQ95
                      have N95 := Fr.app N93 N95q
                      have K96 : ∀ t, Steps p.tables e below (T95.setTop (mkF m 457 #[.val (.long q0), .second, .val (.long q1), .second, .val (.long q2), .second, .val (.long q3), .second, .val (.int p4), .val (.int p5), .val (.ref b2), .val (.int v334), .val (.ref o340), .val (.ref b347), .val (.int v380)] [(.int (fRef q0 q1 q2 q3 v380)), (.int (f321 (v380).toNatClampNeg))])) t → P0 t := by
                        intro t kt
                        refine K94 t ?_
                        show Steps p.tables e below (T93.setTop (mkF m 438 #[.val (.long q0), .second, .val (.long q1), .second, .val (.long q2), .second, .val (.long q3), .second, .val (.int p4), .val (.int p5), .val (.ref b2), .val (.int v334), .val (.ref o340), .val (.ref b347), .val (.int v380)] [(.int (fRef q0 q1 q2 q3 (v334 - (1 : Int32)))), (.int (f321 ((v334 - (1 : Int32))).toNatClampNeg))])) t
                        refine XS.icmpNo X93.here hx rfl (hb hby at_438) rfl (teq hc438).2 ?_
                        show Steps p.tables e below (T93.setTop (mkF m 441 #[.val (.long q0), .second, .val (.long q1), .second, .val (.long q2), .second, .val (.long q3), .second, .val (.int p4), .val (.int p5), .val (.ref b2), .val (.int v334), .val (.ref o340), .val (.ref b347), .val (.int v380)] [])) t
                        refine XS.aload X93.here hx rfl (hb hby at_441) rfl rfl ?_
                        show Steps p.tables e below (T93.setTop (mkF m 443 #[.val (.long q0), .second, .val (.long q1), .second, .val (.long q2), .second, .val (.long q3), .second, .val (.int p4), .val (.int p5), .val (.ref b2), .val (.int v334), .val (.ref o340), .val (.ref b347), .val (.int v380)] [(.ref b2)])) t
                        refine XS.iload X93.here hx rfl (hb hby at_443) rfl ?_
                        show Steps p.tables e below (T93.setTop (mkF m 445 #[.val (.long q0), .second, .val (.long q1), .second, .val (.long q2), .second, .val (.long q3), .second, .val (.int p4), .val (.int p5), .val (.ref b2), .val (.int v334), .val (.ref o340), .val (.ref b347), .val (.int v380)] [(.int v380), (.ref b2)])) t
                        refine ldBA X93 hx hZ e93 F79 (j := v380) (own_inh hn hn4 hn32 hv380) (g := (mkF m 445 #[.val (.long q0), .second, .val (.long q1), .second, .val (.long q2), .second, .val (.long q3), .second, .val (.int p4), .val (.int p5), .val (.ref b2), .val (.int v334), .val (.ref o340), .val (.ref b347), .val (.int v380)] [(.int v380), (.ref b2)])) rfl rfl (hb hby at_445) _ ?_
                        show Steps p.tables e below (T93.setTop (mkF m 446 #[.val (.long q0), .second, .val (.long q1), .second, .val (.long q2), .second, .val (.long q3), .second, .val (.int p4), .val (.int p5), .val (.ref b2), .val (.int v334), .val (.ref o340), .val (.ref b347), .val (.int v380)] [(.int (f321 (v380).toNatClampNeg))])) t
                        refine XS.lloadN X93.here hx rfl (hb hby at_446) rfl ?_
                        show Steps p.tables e below (T93.setTop (mkF m 447 #[.val (.long q0), .second, .val (.long q1), .second, .val (.long q2), .second, .val (.long q3), .second, .val (.int p4), .val (.int p5), .val (.ref b2), .val (.int v334), .val (.ref o340), .val (.ref b347), .val (.int v380)] [(.long q0), (.int (f321 (v380).toNatClampNeg))])) t
                        refine XS.lloadN X93.here hx rfl (hb hby at_447) rfl ?_
                        show Steps p.tables e below (T93.setTop (mkF m 448 #[.val (.long q0), .second, .val (.long q1), .second, .val (.long q2), .second, .val (.long q3), .second, .val (.int p4), .val (.int p5), .val (.ref b2), .val (.int v334), .val (.ref o340), .val (.ref b347), .val (.int v380)] [(.long q1), (.long q0), (.int (f321 (v380).toNatClampNeg))])) t
                        refine XS.lload X93.here hx rfl (hb hby at_448) rfl ?_
                        show Steps p.tables e below (T93.setTop (mkF m 450 #[.val (.long q0), .second, .val (.long q1), .second, .val (.long q2), .second, .val (.long q3), .second, .val (.int p4), .val (.int p5), .val (.ref b2), .val (.int v334), .val (.ref o340), .val (.ref b347), .val (.int v380)] [(.long q2), (.long q1), (.long q0), (.int (f321 (v380).toNatClampNeg))])) t
                        refine XS.lload X93.here hx rfl (hb hby at_450) rfl ?_
                        show Steps p.tables e below (T93.setTop (mkF m 452 #[.val (.long q0), .second, .val (.long q1), .second, .val (.long q2), .second, .val (.long q3), .second, .val (.int p4), .val (.int p5), .val (.ref b2), .val (.int v334), .val (.ref o340), .val (.ref b347), .val (.int v380)] [(.long q3), (.long q2), (.long q1), (.long q0), (.int (f321 (v380).toNatClampNeg))])) t
                        refine XS.iload X93.here hx rfl (hb hby at_452) rfl ?_
                        show Steps p.tables e below (T93.setTop (mkF m 454 #[.val (.long q0), .second, .val (.long q1), .second, .val (.long q2), .second, .val (.long q3), .second, .val (.int p4), .val (.int p5), .val (.ref b2), .val (.int v334), .val (.ref o340), .val (.ref b347), .val (.int v380)] [(.int v380), (.long q3), (.long q2), (.long q1), (.long q0), (.int (f321 (v380).toNatClampNeg))])) t
                        refine st95 _ ?_
                        exact kt
                      obtain ⟨j484_s0_1, T103, lc104, hj484_s0_1, X105, e106, N107, K108⟩ : ∃ (j484_s0_1 : Int32) (T103 : State) (lc104 : List Loc), j484_s0_1 = (if (f321 (v380).toNatClampNeg) = (fRef q0 q1 q2 q3 v380) then (if (f321 ((31 : Int32)).toNatClampNeg) = (fRef q0 q1 q2 q3 (31 : Int32)) then (1 : Int32) else (0 : Int32)) else (0 : Int32)) ∧ Stand p l e room_1 s m #[(.long q0), (.long q1), (.long q2), (.long q3), (.int p4), (.int p5)] below meth c T103 lc104 4 97 ∧ T103.heap = h75 ∧ Fr n0 lc104 ∧ ∀ t, Steps p.tables e below (T103.setTop (mkF m 484 #[.val (.long q0), .second, .val (.long q1), .second, .val (.long q2), .second, .val (.long q3), .second, .val (.int p4), .val (.int p5), .val (.ref b2), .val (.int v334), .val (.ref o340), .val (.ref b347), .val (.int v380)] [(.int j484_s0_1)])) t → P0 t := by
                        by_cases hc457 : (f321 (v380).toNatClampNeg) = (fRef q0 q1 q2 q3 v380)
                        · obtain ⟨_, _, ⟨T97, L97, k97, n97⟩, -, X97, ⟨Lc97, hQ97, l97, y97, z97⟩, st97⟩ := Jvm.LawKit.callS X95 hx (y := (⟨"com/example/trimhash/trimhash/HashPrefixOfPinLaw", "ref", "(JJJJI)B"⟩ : MethodName)) hown (mvT hZ (hw _ (List.mem_of_getElem? (i := 47) rfl))) (mvT hZ (hw _ (List.mem_of_getElem? (i := 48) rfl))) (mvT hZ (hw _ (List.mem_of_getElem? (i := 49) rfl))) (mvT hZ (hw _ (List.mem_of_getElem? (i := 50) rfl))) (by decide) (backOf (W := 1) (rm_ref l Z a0 hw [] q0 q1 q2 q3 (31 : Int32) h75 n0 Z75 ) hZ (hw _ (List.mem_of_getElem? (i := 50) rfl)) (hw _ (List.mem_of_getElem? (i := 49) rfl)) (by decide) (by decide)) (g := (mkF m 473 #[.val (.long q0), .second, .val (.long q1), .second, .val (.long q2), .second, .val (.long q3), .second, .val (.int p4), .val (.int p5), .val (.ref b2), .val (.int v334), .val (.ref o340), .val (.ref b347), .val (.int v380)] [(.int (31 : Int32)), (.long q3), (.long q2), (.long q1), (.long q0), (.int (f321 ((31 : Int32)).toNatClampNeg))])) rfl (by rw [hml]; rfl) (argsL := [(.long q0), (.long q1), (.long q2), (.long q3), (.int (31 : Int32))]) (rest := [(.int (f321 ((31 : Int32)).toNatClampNeg))]) (lenOf law_pd3 rfl) rfl (by show 2 * 0 + _ ≤ _; exact Nat.le_of_eq rfl) (hb hby at_473) (fun _ _ => ⟨rfl, e95, (by decide : 4 + 0 ≤ _), (by decide : 97 + 0 ≤ _)⟩)
                          dsimp only [Pt.U, Pt.locs, Pt.cells, Pt.slots] at X97 l97 y97 z97 st97 hQ97
                          rw [l97, y97, z97] at X97
                          obtain ⟨rfl, N97q, e97⟩ := hQ97
                          have N97 := Fr.app N95 N97q
                          have K98 : ∀ t, Steps p.tables e below (T97.setTop (mkF m 476 #[.val (.long q0), .second, .val (.long q1), .second, .val (.long q2), .second, .val (.long q3), .second, .val (.int p4), .val (.int p5), .val (.ref b2), .val (.int v334), .val (.ref o340), .val (.ref b347), .val (.int v380)] [(.int (fRef q0 q1 q2 q3 (31 : Int32))), (.int (f321 ((31 : Int32)).toNatClampNeg))])) t → P0 t := by
                            intro t kt
                            refine K96 t ?_
                            show Steps p.tables e below (T95.setTop (mkF m 457 #[.val (.long q0), .second, .val (.long q1), .second, .val (.long q2), .second, .val (.long q3), .second, .val (.int p4), .val (.int p5), .val (.ref b2), .val (.int v334), .val (.ref o340), .val (.ref b347), .val (.int v380)] [(.int (fRef q0 q1 q2 q3 v380)), (.int (f321 (v380).toNatClampNeg))])) t
                            refine XS.icmpNo X95.here hx rfl (hb hby at_457) rfl (teq hc457).2 ?_
                            show Steps p.tables e below (T95.setTop (mkF m 460 #[.val (.long q0), .second, .val (.long q1), .second, .val (.long q2), .second, .val (.long q3), .second, .val (.int p4), .val (.int p5), .val (.ref b2), .val (.int v334), .val (.ref o340), .val (.ref b347), .val (.int v380)] [])) t
                            refine XS.aload X95.here hx rfl (hb hby at_460) rfl rfl ?_
                            show Steps p.tables e below (T95.setTop (mkF m 462 #[.val (.long q0), .second, .val (.long q1), .second, .val (.long q2), .second, .val (.long q3), .second, .val (.int p4), .val (.int p5), .val (.ref b2), .val (.int v334), .val (.ref o340), .val (.ref b347), .val (.int v380)] [(.ref b2)])) t
                            refine XS.bipush X95.here hx rfl (hb hby at_462) ?_
                            show Steps p.tables e below (T95.setTop (mkF m 464 #[.val (.long q0), .second, .val (.long q1), .second, .val (.long q2), .second, .val (.long q3), .second, .val (.int p4), .val (.int p5), .val (.ref b2), .val (.int v334), .val (.ref o340), .val (.ref b347), .val (.int v380)] [(.int (31 : Int32)), (.ref b2)])) t
                            refine ldBA X95 hx hZ e95 F79 (j := (31 : Int32)) (by decide) (g := (mkF m 464 #[.val (.long q0), .second, .val (.long q1), .second, .val (.long q2), .second, .val (.long q3), .second, .val (.int p4), .val (.int p5), .val (.ref b2), .val (.int v334), .val (.ref o340), .val (.ref b347), .val (.int v380)] [(.int (31 : Int32)), (.ref b2)])) rfl rfl (hb hby at_464) _ ?_
                            show Steps p.tables e below (T95.setTop (mkF m 465 #[.val (.long q0), .second, .val (.long q1), .second, .val (.long q2), .second, .val (.long q3), .second, .val (.int p4), .val (.int p5), .val (.ref b2), .val (.int v334), .val (.ref o340), .val (.ref b347), .val (.int v380)] [(.int (f321 ((31 : Int32)).toNatClampNeg))])) t
                            refine XS.lloadN X95.here hx rfl (hb hby at_465) rfl ?_
                            show Steps p.tables e below (T95.setTop (mkF m 466 #[.val (.long q0), .second, .val (.long q1), .second, .val (.long q2), .second, .val (.long q3), .second, .val (.int p4), .val (.int p5), .val (.ref b2), .val (.int v334), .val (.ref o340), .val (.ref b347), .val (.int v380)] [(.long q0), (.int (f321 ((31 : Int32)).toNatClampNeg))])) t
                            refine XS.lloadN X95.here hx rfl (hb hby at_466) rfl ?_
                            show Steps p.tables e below (T95.setTop (mkF m 467 #[.val (.long q0), .second, .val (.long q1), .second, .val (.long q2), .second, .val (.long q3), .second, .val (.int p4), .val (.int p5), .val (.ref b2), .val (.int v334), .val (.ref o340), .val (.ref b347), .val (.int v380)] [(.long q1), (.long q0), (.int (f321 ((31 : Int32)).toNatClampNeg))])) t
                            refine XS.lload X95.here hx rfl (hb hby at_467) rfl ?_
                            show Steps p.tables e below (T95.setTop (mkF m 469 #[.val (.long q0), .second, .val (.long q1), .second, .val (.long q2), .second, .val (.long q3), .second, .val (.int p4), .val (.int p5), .val (.ref b2), .val (.int v334), .val (.ref o340), .val (.ref b347), .val (.int v380)] [(.long q2), (.long q1), (.long q0), (.int (f321 ((31 : Int32)).toNatClampNeg))])) t
                            refine XS.lload X95.here hx rfl (hb hby at_469) rfl ?_
                            show Steps p.tables e below (T95.setTop (mkF m 471 #[.val (.long q0), .second, .val (.long q1), .second, .val (.long q2), .second, .val (.long q3), .second, .val (.int p4), .val (.int p5), .val (.ref b2), .val (.int v334), .val (.ref o340), .val (.ref b347), .val (.int v380)] [(.long q3), (.long q2), (.long q1), (.long q0), (.int (f321 ((31 : Int32)).toNatClampNeg))])) t
                            refine XS.bipush X95.here hx rfl (hb hby at_471) ?_
                            show Steps p.tables e below (T95.setTop (mkF m 473 #[.val (.long q0), .second, .val (.long q1), .second, .val (.long q2), .second, .val (.long q3), .second, .val (.int p4), .val (.int p5), .val (.ref b2), .val (.int v334), .val (.ref o340), .val (.ref b347), .val (.int v380)] [(.int (31 : Int32)), (.long q3), (.long q2), (.long q1), (.long q0), (.int (f321 ((31 : Int32)).toNatClampNeg))])) t
                            refine st97 _ ?_
                            exact kt
                          obtain ⟨j484_s0, hj484_s0, K101⟩ : ∃ (j484_s0 : Int32), j484_s0 = (if (f321 ((31 : Int32)).toNatClampNeg) = (fRef q0 q1 q2 q3 (31 : Int32)) then (1 : Int32) else (0 : Int32)) ∧ ∀ t, Steps p.tables e below (T97.setTop (mkF m 484 #[.val (.long q0), .second, .val (.long q1), .second, .val (.long q2), .second, .val (.long q3), .second, .val (.int p4), .val (.int p5), .val (.ref b2), .val (.int v334), .val (.ref o340), .val (.ref b347), .val (.int v380)] [(.int j484_s0)])) t → P0 t := by
                            by_cases hc476 : (f321 ((31 : Int32)).toNatClampNeg) = (fRef q0 q1 q2 q3 (31 : Int32))
                            · have K99 : ∀ t, Steps p.tables e below (T97.setTop (mkF m 484 #[.val (.long q0), .second, .val (.long q1), .second, .val (.long q2), .second, .val (.long q3), .second, .val (.int p4), .val (.int p5), .val (.ref b2), .val (.int v334), .val (.ref o340), .val (.ref b347), .val (.int v380)] [(.int (1 : Int32))])) t → P0 t := by
                                intro t kt
                                refine K98 t ?_
                                show Steps p.tables e below (T97.setTop (mkF m 476 #[.val (.long q0), .second, .val (.long q1), .second, .val (.long q2), .second, .val (.long q3), .second, .val (.int p4), .val (.int p5), .val (.ref b2), .val (.int v334), .val (.ref o340), .val (.ref b347), .val (.int v380)] [(.int (fRef q0 q1 q2 q3 (31 : Int32))), (.int (f321 ((31 : Int32)).toNatClampNeg))])) t
                                refine XS.icmpNo X97.here hx rfl (hb hby at_476) rfl (teq hc476).2 ?_
                                show Steps p.tables e below (T97.setTop (mkF m 479 #[.val (.long q0), .second, .val (.long q1), .second, .val (.long q2), .second, .val (.long q3), .second, .val (.int p4), .val (.int p5), .val (.ref b2), .val (.int v334), .val (.ref o340), .val (.ref b347), .val (.int v380)] [])) t
                                refine XS.iconst X97.here hx rfl (hb hby at_479) ?_
                                show Steps p.tables e below (T97.setTop (mkF m 480 #[.val (.long q0), .second, .val (.long q1), .second, .val (.long q2), .second, .val (.long q3), .second, .val (.int p4), .val (.int p5), .val (.ref b2), .val (.int v334), .val (.ref o340), .val (.ref b347), .val (.int v380)] [(.int (1 : Int32))])) t
                                refine XS.goto X97.here hx rfl (pc0 := 480) (pc' := 484) rfl (hb hby at_480) (by decide) (by decide) ?_
                                exact kt
                              exact ⟨_, (if_pos hc476).symm, K99⟩
                            · have K100 : ∀ t, Steps p.tables e below (T97.setTop (mkF m 484 #[.val (.long q0), .second, .val (.long q1), .second, .val (.long q2), .second, .val (.long q3), .second, .val (.int p4), .val (.int p5), .val (.ref b2), .val (.int v334), .val (.ref o340), .val (.ref b347), .val (.int v380)] [(.int (0 : Int32))])) t → P0 t := by
                                intro t kt
                                refine K98 t ?_
                                show Steps p.tables e below (T97.setTop (mkF m 476 #[.val (.long q0), .second, .val (.long q1), .second, .val (.long q2), .second, .val (.long q3), .second, .val (.int p4), .val (.int p5), .val (.ref b2), .val (.int v334), .val (.ref o340), .val (.ref b347), .val (.int v380)] [(.int (fRef q0 q1 q2 q3 (31 : Int32))), (.int (f321 ((31 : Int32)).toNatClampNeg))])) t
                                refine XS.icmpYes X97.here hx rfl (pc0 := 476) (pc' := 483) rfl (hb hby at_476) rfl (feq hc476).2 (by decide) (by decide) ?_
                                show Steps p.tables e below (T97.setTop (mkF m 483 #[.val (.long q0), .second, .val (.long q1), .second, .val (.long q2), .second, .val (.long q3), .second, .val (.int p4), .val (.int p5), .val (.ref b2), .val (.int v334), .val (.ref o340), .val (.ref b347), .val (.int v380)] [])) t
                                refine XS.iconst X97.here hx rfl (hb hby at_483) ?_
                                exact kt
                              exact ⟨_, (if_neg hc476).symm, K100⟩
                          subst hj484_s0
                          exact ⟨_, _, _, (if_pos hc457).symm, X97, e97, N97, K101⟩
                        · have K102 : ∀ t, Steps p.tables e below (T95.setTop (mkF m 484 #[.val (.long q0), .second, .val (.long q1), .second, .val (.long q2), .second, .val (.long q3), .second, .val (.int p4), .val (.int p5), .val (.ref b2), .val (.int v334), .val (.ref o340), .val (.ref b347), .val (.int v380)] [(.int (0 : Int32))])) t → P0 t := by
                            intro t kt
                            refine K96 t ?_
                            show Steps p.tables e below (T95.setTop (mkF m 457 #[.val (.long q0), .second, .val (.long q1), .second, .val (.long q2), .second, .val (.long q3), .second, .val (.int p4), .val (.int p5), .val (.ref b2), .val (.int v334), .val (.ref o340), .val (.ref b347), .val (.int v380)] [(.int (fRef q0 q1 q2 q3 v380)), (.int (f321 (v380).toNatClampNeg))])) t
                            refine XS.icmpYes X95.here hx rfl (pc0 := 457) (pc' := 483) rfl (hb hby at_457) rfl (feq hc457).2 (by decide) (by decide) ?_
                            show Steps p.tables e below (T95.setTop (mkF m 483 #[.val (.long q0), .second, .val (.long q1), .second, .val (.long q2), .second, .val (.long q3), .second, .val (.int p4), .val (.int p5), .val (.ref b2), .val (.int v334), .val (.ref o340), .val (.ref b347), .val (.int v380)] [])) t
                            refine XS.iconst X95.here hx rfl (hb hby at_483) ?_
                            exact kt
                          exact ⟨_, _, _, (if_neg hc457).symm, X95, e95, N95, K102⟩
                      subst hj484_s0_1
                      exact ⟨_, _, _, (if_pos hc438).symm, X105, e106, N107, K108⟩
                    · have K109 : ∀ t, Steps p.tables e below (T93.setTop (mkF m 484 #[.val (.long q0), .second, .val (.long q1), .second, .val (.long q2), .second, .val (.long q3), .second, .val (.int p4), .val (.int p5), .val (.ref b2), .val (.int v334), .val (.ref o340), .val (.ref b347), .val (.int v380)] [(.int (0 : Int32))])) t → P0 t := by
                        intro t kt
                        refine K94 t ?_
                        show Steps p.tables e below (T93.setTop (mkF m 438 #[.val (.long q0), .second, .val (.long q1), .second, .val (.long q2), .second, .val (.long q3), .second, .val (.int p4), .val (.int p5), .val (.ref b2), .val (.int v334), .val (.ref o340), .val (.ref b347), .val (.int v380)] [(.int (fRef q0 q1 q2 q3 (v334 - (1 : Int32)))), (.int (f321 ((v334 - (1 : Int32))).toNatClampNeg))])) t
                        refine XS.icmpYes X93.here hx rfl (pc0 := 438) (pc' := 483) rfl (hb hby at_438) rfl (feq hc438).2 (by decide) (by decide) ?_
                        show Steps p.tables e below (T93.setTop (mkF m 483 #[.val (.long q0), .second, .val (.long q1), .second, .val (.long q2), .second, .val (.long q3), .second, .val (.int p4), .val (.int p5), .val (.ref b2), .val (.int v334), .val (.ref o340), .val (.ref b347), .val (.int v380)] [])) t
                        refine XS.iconst X93.here hx rfl (hb hby at_483) ?_
                        exact kt
                      exact ⟨_, _, _, (if_neg hc438).symm, X93, e93, N93, K109⟩
                  subst hj484_s0_2
                  exact ⟨_, _, _, (if_pos hc415).symm, X112, e113, N114, K115⟩
                · have K116 : ∀ t, Steps p.tables e below (T91.setTop (mkF m 484 #[.val (.long q0), .second, .val (.long q1), .second, .val (.long q2), .second, .val (.long q3), .second, .val (.int p4), .val (.int p5), .val (.ref b2), .val (.int v334), .val (.ref o340), .val (.ref b347), .val (.int v380)] [(.int (0 : Int32))])) t → P0 t := by
                    intro t kt
                    refine K92 t ?_
                    show Steps p.tables e below (T91.setTop (mkF m 415 #[.val (.long q0), .second, .val (.long q1), .second, .val (.long q2), .second, .val (.long q3), .second, .val (.int p4), .val (.int p5), .val (.ref b2), .val (.int v334), .val (.ref o340), .val (.ref b347), .val (.int v380)] [(.int (fRef q0 q1 q2 q3 (0 : Int32))), (.int (f321 ((0 : Int32)).toNatClampNeg))])) t
                    refine XS.icmpYes X91.here hx rfl (pc0 := 415) (pc' := 483) rfl (hb hby at_415) rfl (feq hc415).2 (by decide) (by decide) ?_
                    show Steps p.tables e below (T91.setTop (mkF m 483 #[.val (.long q0), .second, .val (.long q1), .second, .val (.long q2), .second, .val (.long q3), .second, .val (.int p4), .val (.int p5), .val (.ref b2), .val (.int v334), .val (.ref o340), .val (.ref b347), .val (.int v380)] [])) t
                    refine XS.iconst X91.here hx rfl (hb hby at_483) ?_
                    exact kt
                  exact ⟨_, _, _, (if_neg hc415).symm, X91, e91, N91, K116⟩
              subst hj484_s0_3
              exact ⟨_, _, _, (if_pos hc398).symm, X119, e120, N121, K122⟩
            · have K123 : ∀ t, Steps p.tables e below (T89.setTop (mkF m 484 #[.val (.long q0), .second, .val (.long q1), .second, .val (.long q2), .second, .val (.long q3), .second, .val (.int p4), .val (.int p5), .val (.ref b2), .val (.int v334), .val (.ref o340), .val (.ref b347), .val (.int v380)] [(.int (0 : Int32))])) t → P0 t := by
                intro t kt
                refine K90 t ?_
                show Steps p.tables e below (T89.setTop (mkF m 398 #[.val (.long q0), .second, .val (.long q1), .second, .val (.long q2), .second, .val (.long q3), .second, .val (.int p4), .val (.int p5), .val (.ref b2), .val (.int v334), .val (.ref o340), .val (.ref b347), .val (.int v380)] [(.int (fRef q0 q1 q2 q3 v380)), (.int (f321 (v380).toNatClampNeg))])) t
                refine XS.icmpYes X89.here hx rfl (pc0 := 398) (pc' := 483) rfl (hb hby at_398) rfl (feq hc398).2 (by decide) (by decide) ?_
                show Steps p.tables e below (T89.setTop (mkF m 483 #[.val (.long q0), .second, .val (.long q1), .second, .val (.long q2), .second, .val (.long q3), .second, .val (.int p4), .val (.int p5), .val (.ref b2), .val (.int v334), .val (.ref o340), .val (.ref b347), .val (.int v380)] [])) t
                refine XS.iconst X89.here hx rfl (hb hby at_483) ?_
                exact kt
              exact ⟨_, _, _, (if_neg hc398).symm, X89, e89, N89, K123⟩
          subst hv380
          subst hj484_s0_4
          exact ⟨_, _, _, _, _, _, (if_pos hc367).symm, X126, e127, N128, (hb hby at_484), K129⟩
        · have K130 : ∀ t, Steps p.tables e below (T84.setTop (mkF m 371 #[.val (.long q0), .second, .val (.long q1), .second, .val (.long q2), .second, .val (.long q3), .second, .val (.int p4), .val (.int p5), .val (.ref b2), .val (.int v334), .val (.ref o340), .val (.ref b347), .unset] [(.int (0 : Int32))])) t → P0 t := by
            intro t kt
            refine K86 t ?_
            show Steps p.tables e below (T84.setTop (mkF m 367 #[.val (.long q0), .second, .val (.long q1), .second, .val (.long q2), .second, .val (.long q3), .second, .val (.int p4), .val (.int p5), .val (.ref b2), .val (.int v334), .val (.ref o340), .val (.ref b347), .unset] [(.int v334), (.int (Nat.toInt32 n))])) t
            refine XS.icmpNo X84.here hx rfl (hb hby at_367) rfl (feq hc367).1 ?_
            show Steps p.tables e below (T84.setTop (mkF m 370 #[.val (.long q0), .second, .val (.long q1), .second, .val (.long q2), .second, .val (.long q3), .second, .val (.int p4), .val (.int p5), .val (.ref b2), .val (.int v334), .val (.ref o340), .val (.ref b347), .unset] [])) t
            refine XS.iconst X84.here hx rfl (hb hby at_370) ?_
            exact kt
          exact ⟨_, _, _, _, _, _, (if_neg hc367).symm, X84, e84, N84, (hb hby at_371), K130⟩
      subst hjx367
      exact ⟨_, _, _, _, _, _, (if_pos hc359).symm, X133, e134, N135, hdx367, K136⟩
    · have K137 : ∀ t, Steps p.tables e below (T84.setTop (mkF m 371 #[.val (.long q0), .second, .val (.long q1), .second, .val (.long q2), .second, .val (.long q3), .second, .val (.int p4), .val (.int p5), .val (.ref b2), .val (.int v334), .val (.ref o340), .val (.ref b347), .unset] [(.int (0 : Int32))])) t → P0 t := by
        intro t kt
        refine K85 t ?_
        show Steps p.tables e below (T84.setTop (mkF m 359 #[.val (.long q0), .second, .val (.long q1), .second, .val (.long q2), .second, .val (.long q3), .second, .val (.int p4), .val (.int p5), .val (.ref b2), .val (.int v334), .val (.ref o340), .val (.ref b347), .unset] [(.int v334), (.int (Nat.toInt32 n))])) t
        refine XS.icmpYes X84.here hx rfl (pc0 := 359) (pc' := 370) rfl (hb hby at_359) rfl (feq hc359).2 (by decide) (by decide) ?_
        show Steps p.tables e below (T84.setTop (mkF m 370 #[.val (.long q0), .second, .val (.long q1), .second, .val (.long q2), .second, .val (.long q3), .second, .val (.int p4), .val (.int p5), .val (.ref b2), .val (.int v334), .val (.ref o340), .val (.ref b347), .unset] [])) t
        refine XS.iconst X84.here hx rfl (hb hby at_370) ?_
        exact kt
      exact ⟨_, _, _, _, _, _, (if_neg hc359).symm, X84, e84, N84, (hb hby at_371), K137⟩
  have hres : jx359 = 1 := own_plain q0 q1 q2 q3 p4 p5 f2 f9 f18 f27 f36 f45 f54 f64 f74 f81 f91 f101 f111 f121 f131 f141 f151 f159 f170 f181 f192 f203 f214 f225 f236 f244 f255 f266 f277 f288 f299 f310 f321 v334 n jx359 hf2 hf9 hf18 hf27 hf36 hf45 hf54 hf64 hf74 hf81 hf91 hf101 hf111 hf121 hf131 hf141 hf151 hf159 hf170 hf181 hf192 hf203 hf214 hf225 hf236 hf244 hf255 hf266 hf277 hf288 hf299 hf310 hf321 hv334 hn hn4 hn32 hjx359
  obtain ⟨fs, hr, hrun, hended, hW, hsame⟩ := X140.leave (v := some (.int (1 : Int32))) (fun h => by rw [Bd.returns] at h; cases h)
  refine ⟨_, _, ?_, hrun, hended, _, _, rfl, ?_, ⟨_, rfl⟩, hW, hsame.mono (by decide) (by decide)⟩
  · rw [hres] at K143
    have q := K143 _ (retN X140 hx (t := .boolean) Bd.returns (by simp) hdx359 hr)
    rw [hP0] at q; exact q
  · exact ⟨rfl, N142⟩
set_option maxRecDepth 65536 in
set_option maxHeartbeats 40000000 in
theorem comes_1 {Post : Tables → Env → Array Value → State → Outcome → State → Prop} (hpost : ∀ tb e args s v u, (limb_1_1.after args s (.returned v) u = true ∧ limb_1_2.after args s (.returned v) u = true ∧ True) → FrameEnd s (.returned v) u (Jvm.fieldLocs frame_1_writes args s ++ Jvm.arrayLocs frame_1_arrays args s ++ Jvm.staticLocs frame_1_statics s) 16 256 → Post tb e args s (.returned v) u) :
    ArmFor flags0 classFile x code maxLocals ret World_1 tables_1 room_1 Calls_1 rest_1 Pre_1 Post := by
  intro l hfl _ _ p e ha hc hk s m args below hf hA hF happ hP
  obtain ⟨hcalls, hrest, hpre⟩ := hP
  obtain ⟨-, -, -, hnamed, -, -, -, hat⟩ := (Spec.applies_iff hf).mp happ
  obtain ⟨hg, hn⟩ := and_e (Cond.before_iff.mp (show (Jvm.Cond.and given_1 narrow_1).before args s = true from hpre))
  obtain ⟨gc, gr0⟩ := and_e hg
  obtain ⟨ga0, gr1⟩ := and_e gr0
  obtain ⟨ga1, gr2⟩ := and_e gr1
  obtain ⟨ga2, gr3⟩ := and_e gr2
  obtain ⟨ga3, gr4⟩ := and_e gr3
  obtain ⟨ga4, gr5⟩ := and_e gr4
  obtain ⟨w0, w1, w2, w3, w4, w5, rfl⟩ : ∃ w0 w1 w2 w3 w4 w5 : Value, args = #[w0, w1, w2, w3, w4, w5] := by
    have hs : args.size = 6 := by simpa [Cond.value, given_1] using gc
    obtain ⟨L⟩ := args
    match L, hs with
    | [w0, w1, w2, w3, w4, w5], _ => exact ⟨w0, w1, w2, w3, w4, w5, rfl⟩
  have hw := fun d (hd : d ∈ tables_1) => atoms_spec (ws := Jvm.Cond.code x code maxLocals ret :: tables_1) hat d (List.mem_cons_of_mem _ hd)
  obtain ⟨i0, ei0⟩ := isL_v ga0
  obtain rfl : w0 = (.long i0) := Option.some.inj ei0
  obtain ⟨i1, ei1⟩ := isL_v ga1
  obtain rfl : w1 = (.long i1) := Option.some.inj ei1
  obtain ⟨i2, ei2⟩ := isL_v ga2
  obtain rfl : w2 = (.long i2) := Option.some.inj ei2
  obtain ⟨i3, ei3⟩ := isL_v ga3
  obtain rfl : w3 = (.long i3) := Option.some.inj ei3
  obtain ⟨i4, ei4⟩ := is_v ga4
  obtain rfl : w4 = (.int i4) := Option.some.inj ei4
  obtain ⟨i5, ei5⟩ := is_v gr5
  obtain rfl : w5 = (.int i5) := Option.some.inj ei5
  obtain ⟨n, o, h1, h2, h3, _, L, rfl, ⟨rfl, N⟩, hq⟩ := rm_law l s _ hw tables_1 i0 i1 i2 i3 i4 i5 s.heap s.heap.size (Nat.le_refl _) p e ha hc hk s m _ below hf ((Spec.applies_iff_loose hf).mp happ).1 ⟨rfl, State.Warmed39.refl s, rfl⟩ trivial
  refine ⟨n, _, h1, h2, h3, hpost _ _ _ _ _ _ ⟨Cond.after_iff.mpr rfl, Cond.after_iff.mpr (eq_i res_at (Term.int_eval (1)) rfl), trivial⟩ ⟨hq.1, hq.2.1, (hq.2.2.sift fun y hy => Or.inr (N y hy)).mono (by decide) (by decide)⟩⟩
theorem main_1_1 : Claimed_1_1 := comes_1 fun _ _ _ _ _ _ h hF => ⟨h.1, hF⟩
theorem main_1_2 : Claimed_1_2 := comes_1 fun _ _ _ _ _ _ h hF => ⟨h.2.1, hF⟩
end Jvm.Pilot.@@N@@
namespace Jvm.Pilot.@@N@@
open Jvm Jvm.ClassFile Sem Op Lib Jvm.Free Jvm.Stand Jvm.Pilot.@@N@@.Jvm.D
/-! MADE BY PROGRAM (witnessworld.py) out of the Statement's table words and the real class files: 12 classes; the members and pool entries that the words name. The judged class is class 1, her method 2. -/
namespace start1
open Jvm.ClassFile
def u (s : String) : CpInfo := .utf8 (stringToUtf16 s)
/-- a pool by its gaps: so many unusable entries, then the entry; so many at the end -/
def gap : Nat → List CpInfo → List CpInfo
  | 0, r => r
  | n + 1, r => .unusable :: gap n r
def poolList (es : List (Nat × CpInfo)) (last : Nat) : List CpInfo := es.foldr (fun e r => gap e.1 (e.2 :: r)) (gap last [])
def pool (es : List (Nat × CpInfo)) (last : Nat) : Array CpInfo := ⟨poolList es last⟩
def fileOf (pool : Array CpInfo) (this : Nat) (attrs : Array Attribute := #[]) (ms : Array MethodInfo := #[]) (fl : Nat := 33) (sup : Nat := 0) (ifs : Array Nat := #[]) (fds : Array FieldInfo := #[]) : ClassFile where
  minorVersion := 0
  majorVersion := 65
  constantPool := pool
  accessFlags := fl
  thisClass := this
  superClass := sup
  interfaces := ifs
  fields := fds
  methods := ms
  attributes := attrs
def plain (name : String) (sup : Option ClassId) : Class where
  name := name
  kind := .ordinary
  loader := none
  accessFlags := 33
  super := sup
  interfaces := #[]
  cf := none
  fields := #[]
  methods := #[]
  instanceTypes := #[]
  staticTypes := #[]
  resolved := #[]
  callSites := []
  init := .initialized
  statics := none
  mirror := none

def pool0 : Array CpInfo := pool [(5, u "<init>"), (0, u "()V"), (1, .class_ 10), (1, u "java/lang/Object"), (85, u "clone"), (0, u "()Ljava/lang/Object;")] 26

def k0c0 : Code := { maxStack := 0, maxLocals := 1, code := object_method_1_code, exceptionTable := #[], attributes := #[] }
def k0m0 : Method := { name := "<init>", desc := "()V", sig := { parameters := [], returnType := none }, accessFlags := 1, code := some k0c0 }
def k0m1 : Method := { name := "clone", desc := "()Ljava/lang/Object;", sig := { parameters := [], returnType := some (.object "java/lang/Object") }, accessFlags := 260, code := none }
/-- java/lang/Object -/
def k0 : Class := { plain "java/lang/Object" none with
  accessFlags := 33
  interfaces := #[]
  cf := some (fileOf pool0 8 #[] #[{ accessFlags := 1, nameIndex := 5, descriptorIndex := 6, attributes := #[] }, { accessFlags := 260, nameIndex := 96, descriptorIndex := 97, attributes := #[] }] 33 0 #[] #[])
  fields := #[]
  methods := #[k0m0, k0m1]
  instanceTypes := #[]
  staticTypes := #[]
  resolved := Array.replicate 124 none
  statics := none }

def pool1 : Array CpInfo := pool [(2, .class_ 4), (1, u "java/lang/Object"), (0, u "<init>"), (0, u "()V"), (0, .integer 2147483647), (0, .methodref 9 10), (0, .class_ 11), (0, .nameAndType 12 13), (0, u "com/example/trimhash/trimhash/HashPrefix"), (0, u "of"), (0, u "([BI)Lcom/example/trimhash/trimhash/HashPrefix;"), (0, .methodref 9 15), (0, .nameAndType 16 17), (0, u "toByteArray"), (0, u "()[B"), (0, .methodref 9 19), (0, .nameAndType 20 21), (0, u "length"), (0, u "()I"), (0, .methodref 23 24), (0, .class_ 25), (0, .nameAndType 26 27), (0, u "com/example/trimhash/trimhash/HashPrefixOfPinLaw"), (0, u "ref"), (0, u "(JJJJI)B"), (3, u "law"), (0, u "(JJJJII)Z")] 4

def k1m0 : Method := { name := "<init>", desc := "()V", sig := { parameters := [], returnType := none }, accessFlags := 1, code := none }
def k1c1 : Code := { maxStack := 5, maxLocals := 11, code := method_2_code, exceptionTable := #[], attributes := #[] }
def k1m1 : Method := { name := "ref", desc := "(JJJJI)B", sig := { parameters := [.long, .long, .long, .long, .int], returnType := some .byte }, accessFlags := 10, code := some k1c1 }
def k1c2 : Code := { maxStack := 11, maxLocals := 15, code := code, exceptionTable := #[], attributes := #[] }
def k1m2 : Method := { name := "law", desc := "(JJJJII)Z", sig := { parameters := [.long, .long, .long, .long, .int, .int], returnType := some .boolean }, accessFlags := 9, code := some k1c2 }
/-- com/example/trimhash/trimhash/HashPrefixOfPinLaw -/
def k1 : Class := { plain "com/example/trimhash/trimhash/HashPrefixOfPinLaw" (some 0) with
  accessFlags := 49
  interfaces := #[]
  cf := some (fileOf pool1 23 #[] #[{ accessFlags := 1, nameIndex := 5, descriptorIndex := 6, attributes := #[] }, { accessFlags := 10, nameIndex := 26, descriptorIndex := 27, attributes := #[] }, { accessFlags := 9, nameIndex := 31, descriptorIndex := 32, attributes := #[] }] 49 2 #[] #[])
  fields := #[]
  methods := #[k1m0, k1m1, k1m2]
  instanceTypes := #[]
  staticTypes := #[]
  resolved := Array.replicate 37 none
  statics := none }

def pool2 : Array CpInfo := pool [(1, .methodref 2 3), (0, .class_ 4), (0, .nameAndType 5 6), (0, u "java/lang/Object"), (0, u "<init>"), (0, u "()V"), (0, .fieldref 8 9), (0, .class_ 10), (0, .nameAndType 11 12), (0, u "com/example/trimhash/trimhash/HashPrefix"), (0, u "bytes"), (0, u "[B"), (18, u "of"), (0, u "([BI)Lcom/example/trimhash/trimhash/HashPrefix;"), (14, u "DIGEST"), (0, u "Ljava/lang/ThreadLocal;"), (5, u "()Ljava/lang/Object;"), (20, .methodref 76 77), (0, .class_ 78), (0, .nameAndType 79 80), (0, u "java/util/Arrays"), (0, u "copyOf"), (0, u "([BI)[B"), (0, .methodref 8 82), (0, .nameAndType 5 83), (0, u "([B)V"), (0, .methodref 85 86), (0, .class_ 12), (0, .nameAndType 87 54), (0, u "clone"), (2, u "HEX"), (0, u "Ljava/util/HexFormat;"), (38, u "MIN_BYTES"), (0, u "I"), (2, u "MAX_BYTES"), (1, u "ALGORITHM"), (0, u "Ljava/lang/String;"), (6, u "length"), (0, u "()I"), (0, u "toByteArray"), (0, u "()[B")] 36

def k2c0 : Code := { maxStack := 2, maxLocals := 2, code := prog_1_method_1_code, exceptionTable := #[], attributes := #[] }
def k2m0 : Method := { name := "<init>", desc := "([B)V", sig := { parameters := [(.array .byte)], returnType := none }, accessFlags := 0, code := some k2c0 }
def k2c1 : Code := { maxStack := 4, maxLocals := 2, code := prog_1_method_6_code, exceptionTable := #[], attributes := #[] }
def k2m1 : Method := { name := "of", desc := "([BI)Lcom/example/trimhash/trimhash/HashPrefix;", sig := { parameters := [(.array .byte), .int], returnType := some (.object "com/example/trimhash/trimhash/HashPrefix") }, accessFlags := 8, code := some k2c1 }
def k2c2 : Code := { maxStack := 1, maxLocals := 1, code := prog_1_method_7_code, exceptionTable := #[], attributes := #[] }
def k2m2 : Method := { name := "length", desc := "()I", sig := { parameters := [], returnType := some .int }, accessFlags := 1, code := some k2c2 }
def k2c3 : Code := { maxStack := 1, maxLocals := 1, code := prog_1_method_8_code, exceptionTable := #[], attributes := #[] }
def k2m3 : Method := { name := "toByteArray", desc := "()[B", sig := { parameters := [], returnType := some (.array .byte) }, accessFlags := 1, code := some k2c3 }
/-- com/example/trimhash/trimhash/HashPrefix -/
def k2 : Class := { plain "com/example/trimhash/trimhash/HashPrefix" (some 0) with
  accessFlags := 33
  interfaces := #[]
  cf := some (fileOf pool2 8 #[] #[{ accessFlags := 0, nameIndex := 5, descriptorIndex := 83, attributes := #[] }, { accessFlags := 8, nameIndex := 31, descriptorIndex := 32, attributes := #[] }, { accessFlags := 1, nameIndex := 144, descriptorIndex := 145, attributes := #[] }, { accessFlags := 1, nameIndex := 146, descriptorIndex := 147, attributes := #[] }] 33 2 #[] #[{ accessFlags := 25, nameIndex := 130, descriptorIndex := 131, attributes := #[] }, { accessFlags := 25, nameIndex := 134, descriptorIndex := 131, attributes := #[] }, { accessFlags := 26, nameIndex := 136, descriptorIndex := 137, attributes := #[] }, { accessFlags := 26, nameIndex := 90, descriptorIndex := 91, attributes := #[] }, { accessFlags := 26, nameIndex := 47, descriptorIndex := 48, attributes := #[] }, { accessFlags := 18, nameIndex := 11, descriptorIndex := 12, attributes := #[] }])
  fields := #[{ name := "MIN_BYTES", type := .int, accessFlags := 25, slot := 0, constantValue := 0 }, { name := "MAX_BYTES", type := .int, accessFlags := 25, slot := 1, constantValue := 0 }, { name := "ALGORITHM", type := (.object "java/lang/String"), accessFlags := 26, slot := 2, constantValue := 0 }, { name := "HEX", type := (.object "java/util/HexFormat"), accessFlags := 26, slot := 3, constantValue := 0 }, { name := "DIGEST", type := (.object "java/lang/ThreadLocal"), accessFlags := 26, slot := 4, constantValue := 0 }, { name := "bytes", type := (.array .byte), accessFlags := 18, slot := 0, constantValue := 0 }]
  methods := #[k2m0, k2m1, k2m2, k2m3]
  instanceTypes := #[(.array .byte)]
  staticTypes := #[.int, .int, (.object "java/lang/String"), (.object "java/util/HexFormat"), (.object "java/lang/ThreadLocal")]
  resolved := Array.replicate 184 none
  statics := none }

def pool3 : Array CpInfo := pool [(2, .class_ 4), (1, u "java/lang/Object"), (0, u "<init>"), (0, u "()V"), (7, .class_ 16), (1, u "java/util/Arrays"), (57, .class_ 76), (1, u "java/util/Arrays$NaturalOrder"), (36, .class_ 115), (1, u "java/util/Arrays$LegacyMergeSort"), (1, u "Z"), (32, .methodref 151 152), (0, .class_ 153), (0, .nameAndType 154 155), (0, u "java/lang/System"), (0, u "arraycopy"), (0, u "(Ljava/lang/Object;ILjava/lang/Object;II)V"), (146, u "copyOf"), (1, .methodref 305 306), (0, .class_ 307), (0, .nameAndType 308 309), (0, u "java/lang/Math"), (0, u "min"), (0, u "(II)I"), (65, .class_ 376), (0, u "java/util/Arrays$ArrayList"), (68, u "$assertionsDisabled"), (269, u "MIN_ARRAY_SORT_GRAN"), (0, u "I"), (2, u "INSERTIONSORT_THRESHOLD"), (149, u "([BI)[B"), (105, .class_ 976), (0, u "java/util/Arrays$ArrayItr")] 52

def k3m0 : Method := { name := "<init>", desc := "()V", sig := { parameters := [], returnType := none }, accessFlags := 2, code := none }
def k3c1 : Code := { maxStack := 6, maxLocals := 3, code := jdk_65_method_121_code, exceptionTable := #[], attributes := #[] }
def k3m1 : Method := { name := "copyOf", desc := "([BI)[B", sig := { parameters := [(.array .byte), .int], returnType := some (.array .byte) }, accessFlags := 9, code := some k3c1 }
/-- java/util/Arrays -/
def k3 : Class := { plain "java/util/Arrays" (some 0) with
  accessFlags := 49
  interfaces := #[]
  cf := some (fileOf pool3 14 #[.nestMembers #[975, 375, 113, 74]] #[{ accessFlags := 2, nameIndex := 5, descriptorIndex := 6, attributes := #[] }, { accessFlags := 9, nameIndex := 302, descriptorIndex := 869, attributes := #[] }] 49 2 #[] #[{ accessFlags := 26, nameIndex := 715, descriptorIndex := 716, attributes := #[] }, { accessFlags := 26, nameIndex := 719, descriptorIndex := 716, attributes := #[] }, { accessFlags := 4120, nameIndex := 445, descriptorIndex := 117, attributes := #[] }])
  fields := #[{ name := "MIN_ARRAY_SORT_GRAN", type := .int, accessFlags := 26, slot := 0, constantValue := 0 }, { name := "INSERTIONSORT_THRESHOLD", type := .int, accessFlags := 26, slot := 1, constantValue := 0 }, { name := "$assertionsDisabled", type := .boolean, accessFlags := 4120, slot := 2, constantValue := 0 }]
  methods := #[k3m0, k3m1]
  instanceTypes := #[]
  staticTypes := #[.int, .int, .boolean]
  resolved := Array.replicate 1029 none
  statics := none }

def pool4 : Array CpInfo := pool [(1, .class_ 2), (0, u "java/lang/Math"), (1, .class_ 6), (1, u "java/lang/Object"), (0, u "<init>"), (0, u "()V"), (89, .class_ 100), (1, u "java/lang/Math$RandomNumberGeneratorHolder"), (71, u "negativeZeroFloatBits"), (0, u "J"), (2, u "negativeZeroDoubleBits"), (24, u "min"), (43, u "$assertionsDisabled"), (0, u "Z"), (88, u "(II)I"), (2, u "twoToTheDoubleScaleDown"), (0, u "D"), (4, u "twoToTheDoubleScaleUp"), (9, u "E"), (3, u "PI"), (2, u "TAU"), (2, u "DEGREES_TO_RADIANS"), (0, u "RADIANS_TO_DEGREES")] 94

def k4m0 : Method := { name := "<init>", desc := "()V", sig := { parameters := [], returnType := none }, accessFlags := 2, code := none }
def k4c1 : Code := { maxStack := 2, maxLocals := 2, code := jdk_29_method_69_code, exceptionTable := #[], attributes := #[] }
def k4m1 : Method := { name := "min", desc := "(II)I", sig := { parameters := [.int, .int], returnType := some .int }, accessFlags := 9, code := some k4c1 }
/-- java/lang/Math -/
def k4 : Class := { plain "java/lang/Math" (some 0) with
  accessFlags := 49
  interfaces := #[]
  cf := some (fileOf pool4 1 #[.nestMembers #[98]] #[{ accessFlags := 2, nameIndex := 7, descriptorIndex := 8, attributes := #[] }, { accessFlags := 9, nameIndex := 201, descriptorIndex := 335, attributes := #[] }] 49 4 #[] #[{ accessFlags := 25, nameIndex := 354, descriptorIndex := 339, attributes := #[] }, { accessFlags := 25, nameIndex := 358, descriptorIndex := 339, attributes := #[] }, { accessFlags := 25, nameIndex := 361, descriptorIndex := 339, attributes := #[] }, { accessFlags := 26, nameIndex := 364, descriptorIndex := 339, attributes := #[] }, { accessFlags := 26, nameIndex := 365, descriptorIndex := 339, attributes := #[] }, { accessFlags := 26, nameIndex := 172, descriptorIndex := 173, attributes := #[] }, { accessFlags := 26, nameIndex := 176, descriptorIndex := 173, attributes := #[] }, { accessFlags := 8, nameIndex := 344, descriptorIndex := 339, attributes := #[] }, { accessFlags := 8, nameIndex := 338, descriptorIndex := 339, attributes := #[] }, { accessFlags := 4120, nameIndex := 245, descriptorIndex := 246, attributes := #[] }])
  fields := #[{ name := "E", type := .double, accessFlags := 25, slot := 0, constantValue := 0 }, { name := "PI", type := .double, accessFlags := 25, slot := 1, constantValue := 0 }, { name := "TAU", type := .double, accessFlags := 25, slot := 2, constantValue := 0 }, { name := "DEGREES_TO_RADIANS", type := .double, accessFlags := 26, slot := 3, constantValue := 0 }, { name := "RADIANS_TO_DEGREES", type := .double, accessFlags := 26, slot := 4, constantValue := 0 }, { name := "negativeZeroFloatBits", type := .long, accessFlags := 26, slot := 5, constantValue := 0 }, { name := "negativeZeroDoubleBits", type := .long, accessFlags := 26, slot := 6, constantValue := 0 }, { name := "twoToTheDoubleScaleUp", type := .double, accessFlags := 8, slot := 7, constantValue := 0 }, { name := "twoToTheDoubleScaleDown", type := .double, accessFlags := 8, slot := 8, constantValue := 0 }, { name := "$assertionsDisabled", type := .boolean, accessFlags := 4120, slot := 9, constantValue := 0 }]
  methods := #[k4m0, k4m1]
  instanceTypes := #[]
  staticTypes := #[.double, .double, .double, .double, .double, .long, .long, .double, .double, .boolean]
  resolved := Array.replicate 460 none
  statics := none }

def pool5 : Array CpInfo := pool [(2, .class_ 4), (1, u "java/lang/Object"), (0, u "<init>"), (0, u "()V"), (1, .class_ 10), (1, u "java/lang/System"), (0, u "allowSecurityManager"), (0, u "I"), (16, u "cons"), (0, u "Ljava/io/Console;"), (77, .class_ 110), (1, u "java/lang/System$CallersHolder"), (43, u "initialErrStream"), (0, u "Ljava/io/PrintStream;"), (19, u "security"), (0, u "Ljava/lang/SecurityManager;"), (31, .class_ 209), (0, u "java/lang/System$1"), (7, u "props"), (0, u "Ljava/util/Properties;"), (2, u "lineSeparator"), (0, u "Ljava/lang/String;"), (96, .class_ 321), (1, u "java/lang/System$LoggerFinder"), (5, .class_ 328), (0, u "java/lang/System$Logger"), (67, u "err"), (2, u "out"), (91, u "notSupportedJnuEncoding"), (15, u "in"), (17, u "initialIn"), (0, u "Ljava/io/InputStream;"), (35, u "bootLayer"), (0, u "Ljava/lang/ModuleLayer;"), (99, .class_ 664), (0, u "java/lang/System$2"), (9, u "NEVER"), (2, u "MAYBE"), (49, u "arraycopy"), (0, u "(Ljava/lang/Object;ILjava/lang/Object;II)V"), (72, .class_ 802), (0, u "java/lang/System$Logger$Level")] 31

def k5m0 : Method := { name := "<init>", desc := "()V", sig := { parameters := [], returnType := none }, accessFlags := 2, code := none }
def k5m1 : Method := { name := "arraycopy", desc := "(Ljava/lang/Object;ILjava/lang/Object;II)V", sig := { parameters := [(.object "java/lang/Object"), .int, (.object "java/lang/Object"), .int, .int], returnType := none }, accessFlags := 265, code := none }
/-- java/lang/System -/
def k5 : Class := { plain "java/lang/System" (some 0) with
  accessFlags := 49
  interfaces := #[]
  cf := some (fileOf pool5 8 #[.nestMembers #[319, 327, 801, 108, 663, 208]] #[{ accessFlags := 2, nameIndex := 5, descriptorIndex := 6, attributes := #[] }, { accessFlags := 265, nameIndex := 727, descriptorIndex := 728, attributes := #[] }] 49 2 #[] #[{ accessFlags := 25, nameIndex := 507, descriptorIndex := 526, attributes := #[] }, { accessFlags := 25, nameIndex := 399, descriptorIndex := 155, attributes := #[] }, { accessFlags := 25, nameIndex := 396, descriptorIndex := 155, attributes := #[] }, { accessFlags := 10, nameIndex := 525, descriptorIndex := 526, attributes := #[] }, { accessFlags := 26, nameIndex := 674, descriptorIndex := 12, attributes := #[] }, { accessFlags := 26, nameIndex := 677, descriptorIndex := 12, attributes := #[] }, { accessFlags := 10, nameIndex := 11, descriptorIndex := 12, attributes := #[] }, { accessFlags := 74, nameIndex := 175, descriptorIndex := 176, attributes := #[] }, { accessFlags := 10, nameIndex := 491, descriptorIndex := 222, attributes := #[] }, { accessFlags := 74, nameIndex := 29, descriptorIndex := 30, attributes := #[] }, { accessFlags := 74, nameIndex := 154, descriptorIndex := 155, attributes := #[] }, { accessFlags := 10, nameIndex := 217, descriptorIndex := 218, attributes := #[] }, { accessFlags := 10, nameIndex := 221, descriptorIndex := 222, attributes := #[] }, { accessFlags := 8, nameIndex := 562, descriptorIndex := 563, attributes := #[] }])
  fields := #[{ name := "in", type := (.object "java/io/InputStream"), accessFlags := 25, slot := 0, constantValue := 0 }, { name := "out", type := (.object "java/io/PrintStream"), accessFlags := 25, slot := 1, constantValue := 0 }, { name := "err", type := (.object "java/io/PrintStream"), accessFlags := 25, slot := 2, constantValue := 0 }, { name := "initialIn", type := (.object "java/io/InputStream"), accessFlags := 10, slot := 3, constantValue := 0 }, { name := "NEVER", type := .int, accessFlags := 26, slot := 4, constantValue := 0 }, { name := "MAYBE", type := .int, accessFlags := 26, slot := 5, constantValue := 0 }, { name := "allowSecurityManager", type := .int, accessFlags := 10, slot := 6, constantValue := 0 }, { name := "security", type := (.object "java/lang/SecurityManager"), accessFlags := 74, slot := 7, constantValue := 0 }, { name := "notSupportedJnuEncoding", type := (.object "java/lang/String"), accessFlags := 10, slot := 8, constantValue := 0 }, { name := "cons", type := (.object "java/io/Console"), accessFlags := 74, slot := 9, constantValue := 0 }, { name := "initialErrStream", type := (.object "java/io/PrintStream"), accessFlags := 74, slot := 10, constantValue := 0 }, { name := "props", type := (.object "java/util/Properties"), accessFlags := 10, slot := 11, constantValue := 0 }, { name := "lineSeparator", type := (.object "java/lang/String"), accessFlags := 10, slot := 12, constantValue := 0 }, { name := "bootLayer", type := (.object "java/lang/ModuleLayer"), accessFlags := 8, slot := 13, constantValue := 0 }]
  methods := #[k5m0, k5m1]
  instanceTypes := #[]
  staticTypes := #[(.object "java/io/InputStream"), (.object "java/io/PrintStream"), (.object "java/io/PrintStream"), (.object "java/io/InputStream"), .int, .int, .int, (.object "java/lang/SecurityManager"), (.object "java/lang/String"), (.object "java/io/Console"), (.object "java/io/PrintStream"), (.object "java/util/Properties"), (.object "java/lang/String"), (.object "java/lang/ModuleLayer")]
  resolved := Array.replicate 834 none
  statics := none }

def pool6 : Array CpInfo := pool [(1, .class_ 2), (0, u "java/lang/Cloneable"), (0, .class_ 4), (0, u "java/lang/Object")] 2

/-- java/lang/Cloneable -/
def k6 : Class := { plain "java/lang/Cloneable" (some 0) with
  accessFlags := 1537
  interfaces := #[]
  cf := some (fileOf pool6 1 #[] #[] 1537 3 #[] #[])
  fields := #[]
  methods := #[]
  instanceTypes := #[]
  staticTypes := #[]
  resolved := Array.replicate 7 none
  statics := none }

def pool7 : Array CpInfo := pool [(1, u "java/io/Serializable"), (0, .class_ 1), (0, u "java/lang/Object"), (0, .class_ 3)] 3

/-- java/io/Serializable -/
def k7 : Class := { plain "java/io/Serializable" (some 0) with
  accessFlags := 1537
  interfaces := #[]
  cf := some (fileOf pool7 2 #[] #[] 1537 4 #[] #[])
  fields := #[]
  methods := #[]
  instanceTypes := #[]
  staticTypes := #[]
  resolved := Array.replicate 8 none
  statics := none }

/-- the primitive byte -/
def k8 : Class := { plain "byte" none with kind := .primitive 'B', accessFlags := 0x411 }
/-- [B -/
def k9 : Class := { plain "[B" (some 0) with kind := .array 8 .byte, interfaces := #[6, 7], accessFlags := 1041 }

/-- the primitive int -/
def k10 : Class := { plain "int" none with kind := .primitive 'I', accessFlags := 0x411 }
/-- [I -/
def k11 : Class := { plain "[I" (some 0) with kind := .array 10 .int, interfaces := #[6, 7], accessFlags := 1041 }

def heap : Heap := #[]
def classes : Array Class := #[k0, k1, k2, k3, k4, k5, k6, k7, k8, k9, k10, k11]
def interned : List (Array UInt16 × Addr) := []
def slotsUsed : Nat := 0
def theMethod : MethodId := ⟨1, 2⟩
def args0 : Array Value := #[.long 5, .long 300, .long 7, .long 9, .int 3, .int 4]
def aboutOver (below : List Frame) : State where
  vm := { classes := classes, interned := interned.toArray }
  heap := heap
  slotsUsed := slotsUsed
  threads := #[{ frames := .invoking theMethod args0 :: below }]
def below0 : List Frame := [.native { method := ⟨0, 0⟩, args := #[] }]
def about1 : State := aboutOver below0
def p0 : Program := .bare "" "" ""
def e0 : Env := launch0.env 0 0 0
theorem w_frames : about1.frames = Frame.invoking theMethod args0 :: below0 := rfl
set_option maxRecDepth 65536 in
theorem w_args : argsFit about1.vm theMethod args0 = true := by decide +kernel
set_option maxRecDepth 65536 in
theorem w_heap : heapFits about1 = true := by decide +kernel
set_option maxRecDepth 65536 in
theorem w_runnable : about1.curStatus? = some .runnable := by decide +kernel
set_option maxRecDepth 65536 in
theorem w_alone : about1.alone = true := by decide +kernel
set_option maxRecDepth 65536 in
theorem w_named : about1.methodNamed? x = some theMethod := by decide +kernel
set_option maxRecDepth 65536 in
theorem w_hears : about1.hears theMethod below0 = true := by decide +kernel
set_option maxRecDepth 65536 in
theorem w_ripe : about1.ripe theMethod args0 below0 = true := by decide +kernel
theorem w_running : about1.status = .running := rfl
set_option maxRecDepth 65536 in
theorem w_room : about1.hasRoom e0.platform room_1 = true :=
  launch0.hasRoom_least _ room_1 (by decide +kernel) (by decide +kernel) (by decide +kernel) (by decide +kernel) (by decide +kernel) (by decide +kernel)
theorem allAtoms_all (ts : List Jvm.Cond) (a : Array Jvm.Value) (st : Jvm.State) : (allAtoms ts).before a st = ts.all (fun c => c.before a st) := by
  induction ts with
  | nil => rfl
  | cons c t ih =>
    show (Jvm.Cond.and c (allAtoms t)).before a st = _
    rw [Jvm.Cond.before_and, ih, List.all_cons]
def words1 : List Jvm.Cond := Jvm.Cond.code x code maxLocals ret :: tables_1
/-- a 'code' word, met by the world's own term for the bytes: nothing is compared byte by byte -/
theorem code_word {y : MethodName} {bytes : ByteArray} {mx : Nat} {rt : Option FieldType} {a : Array Value} {s : State} {m : MethodId} {meth : Method} {c : Code} (h1 : s.methodNamed? y = some m) (h2 : s.vm.method? m = some meth) (h3 : meth.code = some c) (h4 : c.code = bytes)
    (h5 : (c.maxLocals == mx && c.exceptionTable.isEmpty && decide (c.maxStack ≤ mostOperands) && decide (meth.sig.returnType = rt) && !meth.locks && decide (parseMethodDescriptor y.desc = some meth.sig)) = true) : (Jvm.Cond.code y bytes mx rt).before a s = true := by
  simp only [Bool.and_eq_true, beq_iff_eq, Bool.not_eq_true', decide_eq_true_eq] at h5
  obtain ⟨⟨⟨⟨⟨g1, g2⟩, g3⟩, g4⟩, g5⟩, g6⟩ := h5
  simp [Cond.before, Cond.holds, Cond.value, h1, h2, h3, h4, g1, g2, g3, g4, g5, g6]
def isCode : Jvm.Cond → Bool
  | .code _ _ _ _ => true
  | _ => false
theorem all_split {L : List Jvm.Cond} {P : Jvm.Cond → Bool} (h1 : L.all (fun c => isCode c || P c) = true) (h2 : ∀ c ∈ L.filter isCode, P c = true) : L.all P = true := by
  refine List.all_eq_true.mpr fun c hc => ?_
  have h := List.all_eq_true.mp h1 c hc
  rcases Bool.eq_false_or_eq_true (isCode c) with hi | hi
  · exact h2 c (List.mem_filter.mpr ⟨hc, hi⟩)
  · simpa [hi] using h
set_option maxRecDepth 65536 in
theorem w_c0 : (Jvm.Cond.code x code maxLocals ret).before args0 about1 = true := code_word (m := ⟨1, 2⟩) (meth := k1m2) (c := k1c2) (by decide +kernel) rfl rfl rfl (by decide +kernel)
set_option maxRecDepth 65536 in
theorem w_c1 : (Jvm.Cond.code ({ cls := "com/example/trimhash/trimhash/HashPrefix", name := "of", desc := "([BI)Lcom/example/trimhash/trimhash/HashPrefix;" } : Jvm.MethodName) prog_1_method_6_code (2 : Nat) (Option.some (Jvm.ClassFile.FieldType.object "com/example/trimhash/trimhash/HashPrefix"))).before args0 about1 = true := code_word (m := ⟨2, 1⟩) (meth := k2m1) (c := k2c1) (by decide +kernel) rfl rfl rfl (by decide +kernel)
set_option maxRecDepth 65536 in
theorem w_c2 : (Jvm.Cond.code ({ cls := "java/util/Arrays", name := "copyOf", desc := "([BI)[B" } : Jvm.MethodName) jdk_65_method_121_code (3 : Nat) (Option.some (Jvm.ClassFile.FieldType.array Jvm.ClassFile.FieldType.byte))).before args0 about1 = true := code_word (m := ⟨3, 1⟩) (meth := k3m1) (c := k3c1) (by decide +kernel) rfl rfl rfl (by decide +kernel)
set_option maxRecDepth 65536 in
theorem w_c3 : (Jvm.Cond.code ({ cls := "java/lang/Math", name := "min", desc := "(II)I" } : Jvm.MethodName) jdk_29_method_69_code (2 : Nat) (Option.some Jvm.ClassFile.FieldType.int)).before args0 about1 = true := code_word (m := ⟨4, 1⟩) (meth := k4m1) (c := k4c1) (by decide +kernel) rfl rfl rfl (by decide +kernel)
set_option maxRecDepth 65536 in
theorem w_c4 : (Jvm.Cond.code ({ cls := "com/example/trimhash/trimhash/HashPrefix", name := "<init>", desc := "([B)V" } : Jvm.MethodName) prog_1_method_1_code (2 : Nat) (Option.none : Option Jvm.ClassFile.FieldType)).before args0 about1 = true := code_word (m := ⟨2, 0⟩) (meth := k2m0) (c := k2c0) (by decide +kernel) rfl rfl rfl (by decide +kernel)
set_option maxRecDepth 65536 in
theorem w_c5 : (Jvm.Cond.code ({ cls := "java/lang/Object", name := "<init>", desc := "()V" } : Jvm.MethodName) object_method_1_code (1 : Nat) (Option.none : Option Jvm.ClassFile.FieldType)).before args0 about1 = true := code_word (m := ⟨0, 0⟩) (meth := k0m0) (c := k0c0) (by decide +kernel) rfl rfl rfl (by decide +kernel)
set_option maxRecDepth 65536 in
theorem w_c6 : (Jvm.Cond.code ({ cls := "com/example/trimhash/trimhash/HashPrefix", name := "toByteArray", desc := "()[B" } : Jvm.MethodName) prog_1_method_8_code (1 : Nat) (Option.some (Jvm.ClassFile.FieldType.array Jvm.ClassFile.FieldType.byte))).before args0 about1 = true := code_word (m := ⟨2, 3⟩) (meth := k2m3) (c := k2c3) (by decide +kernel) rfl rfl rfl (by decide +kernel)
set_option maxRecDepth 65536 in
theorem w_c7 : (Jvm.Cond.code ({ cls := "com/example/trimhash/trimhash/HashPrefix", name := "length", desc := "()I" } : Jvm.MethodName) prog_1_method_7_code (1 : Nat) (Option.some Jvm.ClassFile.FieldType.int)).before args0 about1 = true := code_word (m := ⟨2, 2⟩) (meth := k2m2) (c := k2c2) (by decide +kernel) rfl rfl rfl (by decide +kernel)
set_option maxRecDepth 65536 in
theorem w_c8 : (Jvm.Cond.code ({ cls := "com/example/trimhash/trimhash/HashPrefixOfPinLaw", name := "ref", desc := "(JJJJI)B" } : Jvm.MethodName) method_2_code (11 : Nat) (Option.some Jvm.ClassFile.FieldType.byte)).before args0 about1 = true := code_word (m := ⟨1, 1⟩) (meth := k1m1) (c := k1c1) (by decide +kernel) rfl rfl rfl (by decide +kernel)
def codes1 : List Jvm.Cond := [Jvm.Cond.code x code maxLocals ret, Jvm.Cond.code ({ cls := "com/example/trimhash/trimhash/HashPrefix", name := "of", desc := "([BI)Lcom/example/trimhash/trimhash/HashPrefix;" } : Jvm.MethodName) prog_1_method_6_code (2 : Nat) (Option.some (Jvm.ClassFile.FieldType.object "com/example/trimhash/trimhash/HashPrefix")), Jvm.Cond.code ({ cls := "java/util/Arrays", name := "copyOf", desc := "([BI)[B" } : Jvm.MethodName) jdk_65_method_121_code (3 : Nat) (Option.some (Jvm.ClassFile.FieldType.array Jvm.ClassFile.FieldType.byte)), Jvm.Cond.code ({ cls := "java/lang/Math", name := "min", desc := "(II)I" } : Jvm.MethodName) jdk_29_method_69_code (2 : Nat) (Option.some Jvm.ClassFile.FieldType.int), Jvm.Cond.code ({ cls := "com/example/trimhash/trimhash/HashPrefix", name := "<init>", desc := "([B)V" } : Jvm.MethodName) prog_1_method_1_code (2 : Nat) (Option.none : Option Jvm.ClassFile.FieldType), Jvm.Cond.code ({ cls := "java/lang/Object", name := "<init>", desc := "()V" } : Jvm.MethodName) object_method_1_code (1 : Nat) (Option.none : Option Jvm.ClassFile.FieldType), Jvm.Cond.code ({ cls := "com/example/trimhash/trimhash/HashPrefix", name := "toByteArray", desc := "()[B" } : Jvm.MethodName) prog_1_method_8_code (1 : Nat) (Option.some (Jvm.ClassFile.FieldType.array Jvm.ClassFile.FieldType.byte)), Jvm.Cond.code ({ cls := "com/example/trimhash/trimhash/HashPrefix", name := "length", desc := "()I" } : Jvm.MethodName) prog_1_method_7_code (1 : Nat) (Option.some Jvm.ClassFile.FieldType.int), Jvm.Cond.code ({ cls := "com/example/trimhash/trimhash/HashPrefixOfPinLaw", name := "ref", desc := "(JJJJI)B" } : Jvm.MethodName) method_2_code (11 : Nat) (Option.some Jvm.ClassFile.FieldType.byte)]
set_option maxRecDepth 65536 in
theorem codes_eq : words1.filter isCode = codes1 := rfl
theorem w_codes : ∀ c ∈ words1.filter isCode, c.before args0 about1 = true := by
  rw [codes_eq]
  intro c hc
  simp only [codes1, List.mem_cons, List.not_mem_nil, or_false] at hc
  rcases hc with rfl | rfl | rfl | rfl | rfl | rfl | rfl | rfl | rfl
  · exact w_c0
  · exact w_c1
  · exact w_c2
  · exact w_c3
  · exact w_c4
  · exact w_c5
  · exact w_c6
  · exact w_c7
  · exact w_c8
set_option maxRecDepth 65536 in
theorem w_t1 : (words1.take 24).all (fun c => isCode c || c.before args0 about1) = true := by decide +kernel
set_option maxRecDepth 65536 in
theorem w_t2 : ((words1.drop 24).take 24).all (fun c => isCode c || c.before args0 about1) = true := by decide +kernel
set_option maxRecDepth 65536 in
theorem w_t3 : ((words1.drop 24).drop 24).all (fun c => isCode c || c.before args0 about1) = true := by decide +kernel
theorem w_tables : (allAtoms (Jvm.Cond.code x code maxLocals ret :: tables_1)).before args0 about1 = true := by
  rw [allAtoms_all]
  show words1.all (fun c => c.before args0 about1) = true
  refine all_split ?_ w_codes
  rw [← List.take_append_drop 24 words1, List.all_append, w_t1, ← List.take_append_drop 24 (words1.drop 24), List.all_append, w_t2, w_t3]
  rfl
set_option maxRecDepth 65536 in
theorem w_case : (Jvm.Cond.and given_1 narrow_1).before args0 about1 = true := by decide +kernel
theorem w_applies : (headSpec (Jvm.Cond.code x code maxLocals ret :: tables_1) room_1).applies x e0.platform about1 = true :=
  (Spec.applies_iff w_frames).mpr ⟨w_running, w_runnable, w_alone, w_named, w_hears, w_ripe, w_room, w_tables⟩
theorem atStart : AtStart classFile x code maxLocals ret World_1 tables_1 room_1 Calls_1 rest_1 Pre_1 launch0 p0 e0 about1 theMethod args0 below0 :=
  ⟨lists_1, trivial, launch0.admits_env _ _ _, launch0.least_env, fairChoices_fair.cas, fairChoices_fair.clock, w_frames, w_args, w_heap, w_applies, trivial, trivial, w_case⟩
end start1
theorem witness_1 : WitnessClaimed_1 := ⟨start1.p0, start1.e0, start1.about1, start1.theMethod, start1.args0, start1.below0, start1.atStart⟩
end Jvm.Pilot.@@N@@
