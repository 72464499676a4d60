import JvmDerived
import JvmDerived.Pilot.@@N@@Statement
import JvmDerived.Pilot.@@N@@Code
set_option linter.unusedVariables false
set_option linter.unusedSimpArgs false
namespace Jvm.Pilot.@@N@@
open Jvm Jvm.ClassFile Sem Op Lib Jvm.Free Jvm.Stand Jvm.LawKit Jvm.RoadKit Bundle Jvm.Pilot.@@N@@.Jvm.D
/-! my own small laws: arrays by a function of the place; returns -/
def IA (Z : State) (h : Heap) (a : Addr) (ty : FieldType) (n : Nat) (f : Nat → Int32) : Prop :=
  ∃ c : Cell, Arr Z h a c ty ∧ c.slots.size = n ∧ ∀ j, j < n → c.slots[j]? = some (.int (f j)) ∧ fits ty (.int (f j)) = true
def JA (Z : State) (h : Heap) (a : Addr) (n : Nat) (f : Nat → Int64) : Prop :=
  ∃ c : Cell, Arr Z h a c .long ∧ c.slots.size = n ∧ ∀ j, j < n → c.slots[j]? = some (.long (f j))
def upd (f : Nat → Int32) (i : Nat) (v : Int32) : Nat → Int32 := fun j => if j = i then v else f j
def updJ (f : Nat → Int64) (i : Nat) (v : Int64) : Nat → Int64 := fun j => if j = i then v else f j
def QP (r : Value) (h0 : Heap) (n0 : Nat) (v : Option Value) (h : Heap) (L : List Loc) : Prop := v = some r ∧ Fr n0 L ∧ h = h0
def QL (n0 : Nat) (v : Option Value) (h : Heap) (L : List Loc) : Prop := v = some (.int 1) ∧ Fr n0 L
section Own
variable {p : Program} {l : Launch} {e : Env} {R : Room} {s : State} {m : MethodId} {args : Array Value} {below : List Frame} {meth : Method} {c : Code} {T : State} {locs : List Loc} {cells slots : Nat} {Z : State} {h h' : Heap} {a b : Addr} {ty : FieldType} {n : Nat} {f : Nat → Int32} {fJ : Nat → Int64} {sl : Nat} {v : Value} {wl : List Addr}
theorem IA.lt (F : IA Z h a ty n f) : a < h.size := by obtain ⟨c, A, -⟩ := F; exact A.lt
theorem IA.ext (F : IA Z h a ty n f) (E : Ext h h') : IA Z h' a ty n f := by obtain ⟨c, A, r⟩ := F; exact ⟨c, A.ext E, r⟩
theorem IA.other (F : IA Z h b ty n f) (W : Wr h h' a sl v) (q : b ≠ a) : IA Z h' b ty n f := by obtain ⟨c, A, r⟩ := F; exact ⟨c, A.other W q, r⟩
theorem IA.keep (F : IA Z h a ty n f) (K : Keep h h' wl) (q : a ∉ wl) : IA Z h' a ty n f := by obtain ⟨c, A, r⟩ := F; exact ⟨c, ⟨K.2.1 a c A.1 q, A.2⟩, r⟩
theorem IA.new {k : ClassId} {z : Int32} (A : Arr Z h a (newA k ty z) ty) (hd : defaultValue ty = .int 0) (hf : fits ty (.int 0) = true) (hz : z.toNatClampNeg = n) : IA Z h a ty n (fun _ => 0) := by
  refine ⟨_, A, by rw [sz_new, hz], fun j hj => ⟨?_, hf⟩⟩
  have : j < z.toNatClampNeg := by rw [hz]; exact hj
  simp [newA, hd, this]
theorem IA.set {c : Cell} (A : Arr Z h a c ty) (S : c.slots.size = n) (H : ∀ j, j < n → c.slots[j]? = some (.int (f j)) ∧ fits ty (.int (f j)) = true) {x : Int32} (hv : fits ty (.int x) = true) {i : Nat} (W : Wr h h' a i (.int x)) (hi : i < n) : IA Z h' a ty n (upd f i x) := by
  refine ⟨_, A.same W, by rw [sz_set, S], fun j hj => ?_⟩
  unfold upd
  by_cases q : j = i
  · subst q; simp [Cell.setSlot, S, hi, hv]
  · have := H j hj
    rw [if_neg q]
    refine ⟨?_, this.2⟩
    rw [← this.1]
    show (c.slots.setIfInBounds i (.int x))[j]? = _
    exact Array.getElem?_setIfInBounds_ne (Ne.symm q)
theorem JA.lt (F : JA Z h a n fJ) : a < h.size := by obtain ⟨c, A, -⟩ := F; exact A.lt
theorem JA.ext (F : JA Z h a n fJ) (E : Ext h h') : JA Z h' a n fJ := by obtain ⟨c, A, r⟩ := F; exact ⟨c, A.ext E, r⟩
theorem JA.other (F : JA Z h b n fJ) (W : Wr h h' a sl v) (q : b ≠ a) : JA Z h' b n fJ := by obtain ⟨c, A, r⟩ := F; exact ⟨c, A.other W q, r⟩
theorem JA.keep (F : JA Z h a n fJ) (K : Keep h h' wl) (q : a ∉ wl) : JA Z h' a n fJ := by obtain ⟨c, A, r⟩ := F; exact ⟨c, ⟨K.2.1 a c A.1 q, A.2⟩, r⟩
theorem JA.new {k : ClassId} {z : Int32} (A : Arr Z h a (newA k .long z) .long) (hz : z.toNatClampNeg = n) : JA Z h a n (fun _ => 0) := by
  refine ⟨_, A, by rw [sz_new, hz], fun j hj => ?_⟩
  have : j < z.toNatClampNeg := by rw [hz]; exact hj
  simp [newA, defaultValue, this]
theorem JA.set {c : Cell} (A : Arr Z h a c .long) (S : c.slots.size = n) (H : ∀ j, j < n → c.slots[j]? = some (.long (fJ j))) {x : Int64} {i : Nat} (W : Wr h h' a i (.long x)) (hi : i < n) : JA Z h' a n (updJ fJ i x) := by
  refine ⟨_, A.same W, by rw [sz_set, S], fun j hj => ?_⟩
  unfold updJ
  by_cases q : j = i
  · subst q; simp [Cell.setSlot, S, hi]
  · rw [if_neg q, ← H j hj]
    show (c.slots.setIfInBounds i (.long x))[j]? = _
    exact Array.getElem?_setIfInBounds_ne (Ne.symm q)
theorem stBA (X : Stand p l e R s m args below meth c T locs cells slots) (hx : p.tables.exec = Jvm.exec) (hZ : Z.Warmed39 s.vm) (eT : T.heap = h) (V : IA Z h a .byte n f) {j x : Int32} (hj : ¬ (j < 0 ∨ n ≤ j.toNatClampNeg)) {g : JFrame} (hg : g.method = m) {rest : List Value} (hs : g.stack = .int x :: .int j :: .ref a :: rest) (hd : decode c.code g.pc = .ok (.bastore, 1)) :
    ∃ T' h', Stand p l e R s m args below meth c T' (locs ++ [⟨a, j.toNatClampNeg⟩]) cells slots ∧ T'.heap = h' ∧ (∃ sl v, Wr h h' a sl v) ∧ IA Z h' a .byte n (upd f j.toNatClampNeg (nar .byte x)) ∧ ∀ target, Steps p.tables e below (T'.setTop { g with pc := g.pc + 1, stack := rest }) target → Steps p.tables e below (T.setTop g) target := by
  obtain ⟨cl, A, S, H⟩ := V
  obtain ⟨T', h', X', e', W, st⟩ := stB X hx hZ eT A (j := j) (x := x) (by rw [S]; exact hj) hg hs hd
  exact ⟨T', h', X', e', ⟨_, _, W⟩, IA.set A S H (fits_nar_byte _) W (Nat.lt_of_not_le fun q => hj (Or.inr q)), st⟩
theorem stIA (X : Stand p l e R s m args below meth c T locs cells slots) (hx : p.tables.exec = Jvm.exec) (hZ : Z.Warmed39 s.vm) (eT : T.heap = h) (V : IA Z h a .int n f) {j x : Int32} (hj : ¬ (j < 0 ∨ n ≤ j.toNatClampNeg)) {g : JFrame} (hg : g.method = m) {rest : List Value} (hs : g.stack = .int x :: .int j :: .ref a :: rest) (hd : decode c.code g.pc = .ok (.iastore, 1)) :
    ∃ T' h', Stand p l e R s m args below meth c T' (locs ++ [⟨a, j.toNatClampNeg⟩]) cells slots ∧ T'.heap = h' ∧ (∃ sl v, Wr h h' a sl v) ∧ IA Z h' a .int n (upd f j.toNatClampNeg x) ∧ ∀ target, Steps p.tables e below (T'.setTop { g with pc := g.pc + 1, stack := rest }) target → Steps p.tables e below (T.setTop g) target := by
  obtain ⟨cl, A, S, H⟩ := V
  obtain ⟨T', h', X', e', W, st⟩ := stI X hx hZ eT A (j := j) (x := x) (by rw [S]; exact hj) hg hs hd
  exact ⟨T', h', X', e', ⟨_, _, W⟩, IA.set A S H rfl W (Nat.lt_of_not_le fun q => hj (Or.inr q)), st⟩
theorem stJA (X : Stand p l e R s m args below meth c T locs cells slots) (hx : p.tables.exec = Jvm.exec) (hZ : Z.Warmed39 s.vm) (eT : T.heap = h) (V : JA Z h a n fJ) {j : Int32} {x : Int64} (hj : ¬ (j < 0 ∨ n ≤ j.toNatClampNeg)) {g : JFrame} (hg : g.method = m) {rest : List Value} (hs : g.stack = .long x :: .int j :: .ref a :: rest) (hd : decode c.code g.pc = .ok (.lastore, 1)) :
    ∃ T' h', Stand p l e R s m args below meth c T' (locs ++ [⟨a, j.toNatClampNeg⟩]) cells slots ∧ T'.heap = h' ∧ (∃ sl v, Wr h h' a sl v) ∧ JA Z h' a n (updJ fJ j.toNatClampNeg x) ∧ ∀ target, Steps p.tables e below (T'.setTop { g with pc := g.pc + 1, stack := rest }) target → Steps p.tables e below (T.setTop g) target := by
  obtain ⟨cl, A, S, H⟩ := V
  obtain ⟨T', h', X', e', W, st⟩ := stJ X hx hZ eT A (j := j) (x := x) (by rw [S]; exact hj) hg hs hd
  exact ⟨T', h', X', e', ⟨_, _, W⟩, JA.set A S H W (Nat.lt_of_not_le fun q => hj (Or.inr q)), st⟩
theorem ldBA (X : Stand p l e R s m args below meth c T locs cells slots) (hx : p.tables.exec = Jvm.exec) (hZ : Z.Warmed39 s.vm) (eT : T.heap = h) (V : IA Z h a .byte n f) {j : Int32} (hj : ¬ (j < 0 ∨ n ≤ j.toNatClampNeg)) {g : JFrame} (hg : g.method = m) {rest : List Value} (hs : g.stack = .int j :: .ref a :: rest) (hd : decode c.code g.pc = .ok (.baload, 1)) :
    ∀ target, Steps p.tables e below (T.setTop { g with pc := g.pc + 1, stack := .int (f j.toNatClampNeg) :: rest }) target → Steps p.tables e below (T.setTop g) target := by
  obtain ⟨cl, A, S, H⟩ := V
  exact X.baloadBytes hx (by rw [eT]; exact A.1) (State.isArrayOf_alike hZ.alike A.2.1) A.2.2 (by rw [S]; exact hj) (H _ (Nat.lt_of_not_le fun q => hj (Or.inr q))).1 hg hs hd
theorem ldIA (X : Stand p l e R s m args below meth c T locs cells slots) (hx : p.tables.exec = Jvm.exec) (hZ : Z.Warmed39 s.vm) (eT : T.heap = h) (V : IA Z h a .int n f) {j : Int32} (hj : ¬ (j < 0 ∨ n ≤ j.toNatClampNeg)) {g : JFrame} (hg : g.method = m) {rest : List Value} (hs : g.stack = .int j :: .ref a :: rest) (hd : decode c.code g.pc = .ok (.iaload, 1)) :
    ∀ target, Steps p.tables e below (T.setTop { g with pc := g.pc + 1, stack := .int (f j.toNatClampNeg) :: rest }) target → Steps p.tables e below (T.setTop g) target := by
  obtain ⟨cl, A, S, H⟩ := V
  exact X.iaload hx (by rw [eT]; exact A.1) (State.isArrayOf_alike hZ.alike A.2.1) A.2.2 (by rw [S]; exact hj) (H _ (Nat.lt_of_not_le fun q => hj (Or.inr q))).1 hg hs hd
theorem ldJA (X : Stand p l e R s m args below meth c T locs cells slots) (hx : p.tables.exec = Jvm.exec) (hZ : Z.Warmed39 s.vm) (eT : T.heap = h) (V : JA Z h a n fJ) {j : Int32} (hj : ¬ (j < 0 ∨ n ≤ j.toNatClampNeg)) {g : JFrame} (hg : g.method = m) {rest : List Value} (hs : g.stack = .int j :: .ref a :: rest) (hd : decode c.code g.pc = .ok (.laload, 1)) :
    ∀ target, Steps p.tables e below (T.setTop { g with pc := g.pc + 1, stack := .long (fJ j.toNatClampNeg) :: rest }) target → Steps p.tables e below (T.setTop g) target := by
  obtain ⟨cl, A, S, H⟩ := V
  exact X.laload hx (by rw [eT]; exact A.1) (State.isArrayOf_alike hZ.alike A.2.1) A.2.2 (by rw [S]; exact hj) (H _ (Nat.lt_of_not_le fun q => hj (Or.inr q))) hg hs hd
theorem lnIA (X : Stand p l e R s m args below meth c T locs cells slots) (hx : p.tables.exec = Jvm.exec) (hZ : Z.Warmed39 s.vm) (eT : T.heap = h) (V : IA Z h a ty n f) {z : Int32} (hz : n.toInt32 = z) {g : JFrame} (hg : g.method = m) {rest : List Value} (hs : g.stack = .ref a :: rest) (hd : decode c.code g.pc = .ok (.arraylength, 1)) :
    ∀ target, Steps p.tables e below (T.setTop { g with pc := g.pc + 1, stack := .int z :: rest }) target → Steps p.tables e below (T.setTop g) target := by
  obtain ⟨cl, A, S, H⟩ := V
  intro t k
  refine X.arraylength hx (by rw [eT]; exact A.1) (State.isArrayOf_alike hZ.alike A.2.1) hg hs hd t ?_
  rw [S, hz]; exact k
theorem lnJA (X : Stand p l e R s m args below meth c T locs cells slots) (hx : p.tables.exec = Jvm.exec) (hZ : Z.Warmed39 s.vm) (eT : T.heap = h) (V : JA Z h a n fJ) {z : Int32} (hz : n.toInt32 = z) {g : JFrame} (hg : g.method = m) {rest : List Value} (hs : g.stack = .ref a :: rest) (hd : decode c.code g.pc = .ok (.arraylength, 1)) :
    ∀ target, Steps p.tables e below (T.setTop { g with pc := g.pc + 1, stack := .int z :: rest }) target → Steps p.tables e below (T.setTop g) target := by
  obtain ⟨cl, A, S, H⟩ := V
  intro t k
  refine X.arraylength hx (by rw [eT]; exact A.1) (State.isArrayOf_alike hZ.alike A.2.1) hg hs hd t ?_
  rw [S, hz]; exact k
theorem retI (X : Stand p l e R s m args below meth c T locs cells slots) (hx : p.tables.exec = Jvm.exec) {pc : Nat} {Ls : Array Slot} {z : Int32} {rest : List Value} (hret : meth.sig.returnType = some .int) (hd : decode c.code pc = .ok (.ireturn, 1)) {fs : List Frame}
    (hl : ∀ (f : JFrame) (acts : List Action), f.method = m → f.locked = none → f.entered = [] → (doReturn e (T.setTop f) acts (some (.int z))).1 = T.setFrames fs) : Steps p.tables e below (T.setTop (mkF m pc Ls (.int z :: rest))) (T.setFrames fs) :=
  retOut X hx hret rfl (Or.inl ⟨rfl, Or.inl rfl, z, rfl⟩) hd hl
end Own
/-! numbers -/
theorem own_small {v : Int32} (n : Nat) (h0 : 0 ≤ v.toInt) (h1 : v.toInt < n) : ∃ k : Fin n, v = Int32.ofNat k.val := by
  refine ⟨⟨v.toInt.toNat, by omega⟩, ?_⟩
  apply Int32.toInt_inj.mp
  have := v.toInt_lt
  show v.toInt = (Int32.ofNat v.toInt.toNat).toInt
  rw [Int32.toInt_ofNat_of_lt (by omega)]
  omega
theorem own_mask31 (x : Int32) : 0 ≤ (x &&& (2147483647 : Int32)).toInt ∧ (x &&& (2147483647 : Int32)).toInt = x.toInt % 2147483648 := by
  have h : (x &&& (2147483647 : Int32)).toInt = x.toInt % (2 ^ 31 : Nat) := c_mask x 2147483647 31 (by decide) (by decide)
  omega
theorem own_mod (x : Int32) (d : Int32) (n : Nat) (hd : d.toInt = n) (hn : 0 < n) : ∃ k : Fin n, (x &&& (2147483647 : Int32)) % d = Int32.ofNat k.val := by
  apply own_small
  · rw [Int32.toInt_mod]; exact Int.tmod_nonneg _ (own_mask31 x).1
  · rw [Int32.toInt_mod, hd]; exact Int.tmod_lt_of_pos _ (by omega)
theorem own_ofNat_toInt {n : Nat} (h : n < 2147483648) : (Int32.ofNat n).toInt = n := Int32.toInt_ofNat_of_lt (by omega)
theorem own_ofNat_lt {a b : Nat} (ha : a < 2147483648) (hb : b < 2147483648) : Int32.ofNat a < Int32.ofNat b ↔ a < b := by
  rw [Int32.lt_iff_toInt_lt, own_ofNat_toInt ha, own_ofNat_toInt hb]; omega
theorem own_ofNat_nat {n : Nat} (h : n < 2147483648) : (Int32.ofNat n).toNatClampNeg = n := by
  show (Int32.ofNat n).toInt.toNat = n
  rw [own_ofNat_toInt h]; omega
theorem own_ofNat_in {n len : Nat} (h : n < len) (hl : len ≤ 2147483648) : ¬ (Int32.ofNat n < 0 ∨ len ≤ (Int32.ofNat n).toNatClampNeg) := by
  rw [own_ofNat_nat (by omega), Int32.lt_iff_toInt_lt, own_ofNat_toInt (by omega)]
  have e : (0 : Int32).toInt = 0 := by decide
  rw [e]; omega
theorem own_ofNat_succ (n : Nat) : Int32.ofNat n + 1 = Int32.ofNat (n + 1) := by rw [Int32.ofNat_add]; rfl
theorem msk_d0 : decode prog_9_method_8_code 0 = .ok (.iload_n 0, 1) := by decide +kernel
theorem msk_d1 : decode prog_9_method_8_code 1 = .ok (.ifCond .ne 7, 3) := by decide +kernel
theorem msk_d4 : decode prog_9_method_8_code 4 = .ok (.iconst 0, 1) := by decide +kernel
theorem msk_d5 : decode prog_9_method_8_code 5 = .ok (.goto 9, 3) := by decide +kernel
theorem msk_d8 : decode prog_9_method_8_code 8 = .ok (.iconst (-1), 1) := by decide +kernel
theorem msk_d9 : decode prog_9_method_8_code 9 = .ok (.bipush 32, 2) := by decide +kernel
theorem msk_d11 : decode prog_9_method_8_code 11 = .ok (.iload_n 0, 1) := by decide +kernel
theorem msk_d12 : decode prog_9_method_8_code 12 = .ok (.isub, 1) := by decide +kernel
theorem msk_d13 : decode prog_9_method_8_code 13 = .ok (.ishl, 1) := by decide +kernel
theorem msk_d14 : decode prog_9_method_8_code 14 = .ok (.ireturn, 1) := by decide +kernel
theorem msk_pn : plainName "com/example/stridewise/stridewise/Prefix" = true := by first | (simp [plainName, overriddenIn]; done) | decide +kernel
theorem msk_ef (m : MethodId) (x0 : Int32) : entryFrame m #[(.int x0)] 1 = mkF m 0 #[.val (.int x0)] [] := by first | (simp [entryFrame, mkF, argsToLocals, Value.category]; done) | rfl
def fMask (p0 : Int32) : Int32 :=
  let j14_s0 : Int32 := (if p0 = (0 : Int32) then (0 : Int32) else ((-1 : Int32) <<< (((32 : Int32) - p0) &&& 31)))
  j14_s0
set_option maxRecDepth 65536 in
set_option maxHeartbeats 40000000 in
theorem rm_msk (l : Launch) (Z : State) (a0 : Array Value) (hw : ∀ d ∈ tables_1, d.before a0 Z = true) (ws : List Jvm.Cond) (p0 : Int32) (h0 : Heap) (n0 : Nat) (Z0 : n0 ≤ h0.size) :
    MetFree l (⟨"com/example/stridewise/stridewise/Prefix", "mask", "(I)I"⟩ : MethodName) (head1 (Jvm.Cond.code (⟨"com/example/stridewise/stridewise/Prefix", "mask", "(I)I"⟩ : MethodName) prog_9_method_8_code 1 (some .int) :: ws) ({ frames := 0, cells := 0, slots := 0, locals := 0 } : Room)) (fun a U => a = #[(.int p0)] ∧ Z.Warmed39 U.vm ∧ U.heap = h0) (fun _ _ _ _ _ => True) (fun _ U o U' => ∃ v L, o = .returned v ∧ QP (.int (fMask p0)) h0 n0 v U'.heap L ∧ FrameEnd U o U' L ({ frames := 0, cells := 0, slots := 0, locals := 0 } : Room).cells ({ frames := 0, cells := 0, slots := 0, locals := 0 } : Room).slots) := by
  refine MetFree.of_bodySF (plainFor_of_name msk_pn) hisR ?_
  intro p e s m args below meth c s₁ Bd hml0 hP hK
  obtain ⟨rfl, hZ, hh⟩ := hP
  have hx := Bd.exec
  have hby := Bd.bytes
  have hml : c.maxLocals = 1 := hml0
  have hown : s.vm.findClass "com/example/stridewise/stridewise/Prefix" = some m.cls := findClass_of_methodNamed Bd.named
  have hnm := (name_of_methodNamed Bd.named Bd.method).1
  have X0 : Stand p l e ({ frames := 0, cells := 0, slots := 0, locals := 0 } : Room) s m #[(.int p0)] below meth c s₁ [] 0 0 := Stand.of_body Bd
  have e0 : s₁.heap = h0 := by rw [← hh, Bd.state]; rfl
  have N0 := Fr.nil n0
  obtain ⟨P0, hP0⟩ : ∃ P0 : State → Prop, P0 = fun t => Steps p.tables e below (s₁.setTop (entryFrame m #[(.int p0)] 1)) t := ⟨_, rfl⟩
  have K0 : ∀ t, Steps p.tables e below (s₁.setTop (mkF m 0 #[.val (.int p0)] [])) t → P0 t := by
    intro t k; rw [hP0]; exact castTop (msk_ef m p0) k
  have K1 : ∀ t, Steps p.tables e below (s₁.setTop (mkF m 1 #[.val (.int p0)] [(.int p0)])) t → P0 t := by
    intro t kt
    refine K0 t ?_
    show Steps p.tables e below (s₁.setTop (mkF m 0 #[.val (.int p0)] [])) t
    refine XS.iloadN X0.here hx rfl (hb hby msk_d0) rfl ?_
    exact kt
  obtain ⟨j14_s0, hj14_s0, K4⟩ : ∃ (j14_s0 : Int32), j14_s0 = (if p0 = (0 : Int32) then (0 : Int32) else ((-1 : Int32) <<< (((32 : Int32) - p0) &&& 31))) ∧ ∀ t, Steps p.tables e below (s₁.setTop (mkF m 14 #[.val (.int p0)] [(.int j14_s0)])) t → P0 t := by
    by_cases hc1 : p0 = (0 : Int32)
    · have K2 : ∀ t, Steps p.tables e below (s₁.setTop (mkF m 14 #[.val (.int p0)] [(.int (0 : Int32))])) t → P0 t := by
        intro t kt
        refine K1 t ?_
        show Steps p.tables e below (s₁.setTop (mkF m 1 #[.val (.int p0)] [(.int p0)])) t
        refine XS.ifNo X0.here hx rfl (hb hby msk_d1) rfl ((if0 _ _).trans (teq hc1).2) ?_
        show Steps p.tables e below (s₁.setTop (mkF m 4 #[.val (.int p0)] [])) t
        refine XS.iconst X0.here hx rfl (hb hby msk_d4) ?_
        show Steps p.tables e below (s₁.setTop (mkF m 5 #[.val (.int p0)] [(.int (0 : Int32))])) t
        refine XS.goto X0.here hx rfl (pc0 := 5) (pc' := 14) rfl (hb hby msk_d5) (by decide) (by decide) ?_
        exact kt
      exact ⟨_, (if_pos hc1).symm, K2⟩
    · have K3 : ∀ t, Steps p.tables e below (s₁.setTop (mkF m 14 #[.val (.int p0)] [(.int ((-1 : Int32) <<< (((32 : Int32) - p0) &&& 31)))])) t → P0 t := by
        intro t kt
        refine K1 t ?_
        show Steps p.tables e below (s₁.setTop (mkF m 1 #[.val (.int p0)] [(.int p0)])) t
        refine XS.ifYes X0.here hx rfl (pc0 := 1) (pc' := 8) rfl (hb hby msk_d1) rfl ((if0 _ _).trans (feq hc1).2) (by decide) (by decide) ?_
        show Steps p.tables e below (s₁.setTop (mkF m 8 #[.val (.int p0)] [])) t
        refine XS.iconst X0.here hx rfl (hb hby msk_d8) ?_
        show Steps p.tables e below (s₁.setTop (mkF m 9 #[.val (.int p0)] [(.int (-1 : Int32))])) t
        refine XS.bipush X0.here hx rfl (hb hby msk_d9) ?_
        show Steps p.tables e below (s₁.setTop (mkF m 11 #[.val (.int p0)] [(.int (32 : Int32)), (.int (-1 : Int32))])) t
        refine XS.iloadN X0.here hx rfl (hb hby msk_d11) rfl ?_
        show Steps p.tables e below (s₁.setTop (mkF m 12 #[.val (.int p0)] [(.int p0), (.int (32 : Int32)), (.int (-1 : Int32))])) t
        refine XS.isub X0.here hx rfl (hb hby msk_d12) rfl ?_
        show Steps p.tables e below (s₁.setTop (mkF m 13 #[.val (.int p0)] [(.int ((32 : Int32) - p0)), (.int (-1 : Int32))])) t
        refine XS.ishl X0.here hx rfl (hb hby msk_d13) rfl ?_
        exact kt
      exact ⟨_, (if_neg hc1).symm, K3⟩
  obtain ⟨fs, hr, hrun, hended, hW, hsame⟩ := X0.leave (v := some (.int j14_s0)) (fun h => by rw [Bd.returns] at h; cases h)
  refine ⟨_, _, ?_, hrun, hended, _, _, rfl, ?_, ⟨_, rfl⟩, hW, hsame.mono (by decide) (by decide)⟩
  · skip
    have q := K4 _ (retI X0 hx Bd.returns (hb hby msk_d14) hr)
    rw [hP0] at q; exact q
  · show QP (.int (fMask p0)) h0 n0 _ s₁.heap _
    rw [e0]
    subst hj14_s0
    exact ⟨rfl, N0, rfl⟩
theorem cov_d0 : decode prog_9_method_7_code 0 = .ok (.iload_n 2, 1) := by decide +kernel
theorem cov_d1 : decode prog_9_method_7_code 1 = .ok (.iload_n 0, 1) := by decide +kernel
theorem cov_d2 : decode prog_9_method_7_code 2 = .ok (.ixor, 1) := by decide +kernel
theorem cov_d3 : decode prog_9_method_7_code 3 = .ok (.iload_n 1, 1) := by decide +kernel
theorem cov_d4 : decode prog_9_method_7_code 4 = .ok (.invokestatic 25, 3) := by decide +kernel
theorem cov_d7 : decode prog_9_method_7_code 7 = .ok (.iand, 1) := by decide +kernel
theorem cov_d8 : decode prog_9_method_7_code 8 = .ok (.ifCond .ne 7, 3) := by decide +kernel
theorem cov_d11 : decode prog_9_method_7_code 11 = .ok (.iconst 1, 1) := by decide +kernel
theorem cov_d12 : decode prog_9_method_7_code 12 = .ok (.goto 4, 3) := by decide +kernel
theorem cov_d15 : decode prog_9_method_7_code 15 = .ok (.iconst 0, 1) := by decide +kernel
theorem cov_d16 : decode prog_9_method_7_code 16 = .ok (.ireturn, 1) := by decide +kernel
theorem cov_pn : plainName "com/example/stridewise/stridewise/Prefix" = true := by first | (simp [plainName, overriddenIn]; done) | decide +kernel
theorem cov_pd0 : parseMethodDescriptor "(I)I" = some ⟨[.int], some .int⟩ := by decide +kernel
theorem cov_ef (m : MethodId) (x0 : Int32) (x1 : Int32) (x2 : Int32) : entryFrame m #[(.int x0), (.int x1), (.int x2)] 3 = mkF m 0 #[.val (.int x0), .val (.int x1), .val (.int x2)] [] := by first | (simp [entryFrame, mkF, argsToLocals, Value.category]; done) | rfl
def fCov (p0 : Int32) (p1 : Int32) (p2 : Int32) : Int32 :=
  let j16_s0 : Int32 := (if ((p2 ^^^ p0) &&& (fMask p1)) = (0 : Int32) then (1 : Int32) else (0 : Int32))
  (nar .boolean j16_s0)
set_option maxRecDepth 65536 in
set_option maxHeartbeats 40000000 in
theorem rm_cov (l : Launch) (Z : State) (a0 : Array Value) (hw : ∀ d ∈ tables_1, d.before a0 Z = true) (ws : List Jvm.Cond) (p0 : Int32) (p1 : Int32) (p2 : Int32) (h0 : Heap) (n0 : Nat) (Z0 : n0 ≤ h0.size) :
    MetFree l (⟨"com/example/stridewise/stridewise/Prefix", "covers", "(III)Z"⟩ : MethodName) (head1 (Jvm.Cond.code (⟨"com/example/stridewise/stridewise/Prefix", "covers", "(III)Z"⟩ : MethodName) prog_9_method_7_code 3 (some .boolean) :: ws) ({ frames := 1, cells := 0, slots := 0, locals := 13 } : Room)) (fun a U => a = #[(.int p0), (.int p1), (.int p2)] ∧ Z.Warmed39 U.vm ∧ U.heap = h0) (fun _ _ _ _ _ => True) (fun _ U o U' => ∃ v L, o = .returned v ∧ QP (.int (fCov p0 p1 p2)) h0 n0 v U'.heap L ∧ FrameEnd U o U' L ({ frames := 1, cells := 0, slots := 0, locals := 13 } : Room).cells ({ frames := 1, cells := 0, slots := 0, locals := 13 } : Room).slots) := by
  refine MetFree.of_bodySF (plainFor_of_name cov_pn) hisR ?_
  intro p e s m args below meth c s₁ Bd hml0 hP hK
  obtain ⟨rfl, hZ, hh⟩ := hP
  have hx := Bd.exec
  have hby := Bd.bytes
  have hml : c.maxLocals = 3 := hml0
  have hown : s.vm.findClass "com/example/stridewise/stridewise/Prefix" = some m.cls := findClass_of_methodNamed Bd.named
  have hnm := (name_of_methodNamed Bd.named Bd.method).1
  have X0 : Stand p l e ({ frames := 1, cells := 0, slots := 0, locals := 13 } : Room) s m #[(.int p0), (.int p1), (.int p2)] below meth c s₁ [] 0 0 := Stand.of_body Bd
  have e0 : s₁.heap = h0 := by rw [← hh, Bd.state]; rfl
  have N0 := Fr.nil n0
  obtain ⟨P0, hP0⟩ : ∃ P0 : State → Prop, P0 = fun t => Steps p.tables e below (s₁.setTop (entryFrame m #[(.int p0), (.int p1), (.int p2)] 3)) t := ⟨_, rfl⟩
  have K0 : ∀ t, Steps p.tables e below (s₁.setTop (mkF m 0 #[.val (.int p0), .val (.int p1), .val (.int p2)] [])) t → P0 t := by
    intro t k; rw [hP0]; exact castTop (cov_ef m p0 p1 p2) k
  obtain ⟨_, _, ⟨T1, L1, k1, n1⟩, -, X1, ⟨Lc1, hQ1, l1, y1, z1⟩, st1⟩ := Jvm.LawKit.callS X0 hx (y := (⟨"com/example/stridewise/stridewise/Prefix", "mask", "(I)I"⟩ : MethodName)) hown (mvT hZ (hw _ (List.mem_of_getElem? (i := 5) rfl))) (mvT hZ (hw _ (List.mem_of_getElem? (i := 6) rfl))) (mvT hZ (hw _ (List.mem_of_getElem? (i := 3) rfl))) (mvT hZ (hw _ (List.mem_of_getElem? (i := 7) rfl))) (by decide) (backOf (W := 1) (rm_msk l Z a0 hw [] p1 h0 n0 Z0 ) hZ (hw _ (List.mem_of_getElem? (i := 7) rfl)) (hw _ (List.mem_of_getElem? (i := 3) rfl)) (by decide) (by decide)) (g := (mkF m 4 #[.val (.int p0), .val (.int p1), .val (.int p2)] [(.int p1), (.int (p2 ^^^ p0))])) rfl (by rw [hml]; rfl) (argsL := [(.int p1)]) (rest := [(.int (p2 ^^^ p0))]) (lenOf cov_pd0 rfl) rfl (by show 2 * 0 + _ ≤ _; exact Nat.le_of_eq rfl) (hb hby cov_d4) (fun _ _ => ⟨rfl, e0, (by decide : 0 + 0 ≤ _), (by decide : 0 + 0 ≤ _)⟩)
  dsimp only [Pt.U, Pt.locs, Pt.cells, Pt.slots] at X1 l1 y1 z1 st1 hQ1
  subst l1 y1 z1
  obtain ⟨rfl, N1q, e1⟩ := hQ1
  have N1 := Fr.app N0 N1q
  have K2 : ∀ t, Steps p.tables e below (T1.setTop (mkF m 8 #[.val (.int p0), .val (.int p1), .val (.int p2)] [(.int ((p2 ^^^ p0) &&& (fMask p1)))])) t → P0 t := by
    intro t kt
    refine K0 t ?_
    show Steps p.tables e below (s₁.setTop (mkF m 0 #[.val (.int p0), .val (.int p1), .val (.int p2)] [])) t
    refine XS.iloadN X0.here hx rfl (hb hby cov_d0) rfl ?_
    show Steps p.tables e below (s₁.setTop (mkF m 1 #[.val (.int p0), .val (.int p1), .val (.int p2)] [(.int p2)])) t
    refine XS.iloadN X0.here hx rfl (hb hby cov_d1) rfl ?_
    show Steps p.tables e below (s₁.setTop (mkF m 2 #[.val (.int p0), .val (.int p1), .val (.int p2)] [(.int p0), (.int p2)])) t
    refine XS.ixor X0.here hx rfl (hb hby cov_d2) rfl ?_
    show Steps p.tables e below (s₁.setTop (mkF m 3 #[.val (.int p0), .val (.int p1), .val (.int p2)] [(.int (p2 ^^^ p0))])) t
    refine XS.iloadN X0.here hx rfl (hb hby cov_d3) rfl ?_
    show Steps p.tables e below (s₁.setTop (mkF m 4 #[.val (.int p0), .val (.int p1), .val (.int p2)] [(.int p1), (.int (p2 ^^^ p0))])) t
    refine st1 _ ?_
    show Steps p.tables e below (T1.setTop (mkF m 7 #[.val (.int p0), .val (.int p1), .val (.int p2)] [(.int (fMask p1)), (.int (p2 ^^^ p0))])) t
    refine XS.iand X1.here hx rfl (hb hby cov_d7) rfl ?_
    exact kt
  obtain ⟨j16_s0, hj16_s0, K5⟩ : ∃ (j16_s0 : Int32), j16_s0 = (if ((p2 ^^^ p0) &&& (fMask p1)) = (0 : Int32) then (1 : Int32) else (0 : Int32)) ∧ ∀ t, Steps p.tables e below (T1.setTop (mkF m 16 #[.val (.int p0), .val (.int p1), .val (.int p2)] [(.int j16_s0)])) t → P0 t := by
    by_cases hc8 : ((p2 ^^^ p0) &&& (fMask p1)) = (0 : Int32)
    · have K3 : ∀ t, Steps p.tables e below (T1.setTop (mkF m 16 #[.val (.int p0), .val (.int p1), .val (.int p2)] [(.int (1 : Int32))])) t → P0 t := by
        intro t kt
        refine K2 t ?_
        show Steps p.tables e below (T1.setTop (mkF m 8 #[.val (.int p0), .val (.int p1), .val (.int p2)] [(.int ((p2 ^^^ p0) &&& (fMask p1)))])) t
        refine XS.ifNo X1.here hx rfl (hb hby cov_d8) rfl ((if0 _ _).trans (teq hc8).2) ?_
        show Steps p.tables e below (T1.setTop (mkF m 11 #[.val (.int p0), .val (.int p1), .val (.int p2)] [])) t
        refine XS.iconst X1.here hx rfl (hb hby cov_d11) ?_
        show Steps p.tables e below (T1.setTop (mkF m 12 #[.val (.int p0), .val (.int p1), .val (.int p2)] [(.int (1 : Int32))])) t
        refine XS.goto X1.here hx rfl (pc0 := 12) (pc' := 16) rfl (hb hby cov_d12) (by decide) (by decide) ?_
        exact kt
      exact ⟨_, (if_pos hc8).symm, K3⟩
    · have K4 : ∀ t, Steps p.tables e below (T1.setTop (mkF m 16 #[.val (.int p0), .val (.int p1), .val (.int p2)] [(.int (0 : Int32))])) t → P0 t := by
        intro t kt
        refine K2 t ?_
        show Steps p.tables e below (T1.setTop (mkF m 8 #[.val (.int p0), .val (.int p1), .val (.int p2)] [(.int ((p2 ^^^ p0) &&& (fMask p1)))])) t
        refine XS.ifYes X1.here hx rfl (pc0 := 8) (pc' := 15) rfl (hb hby cov_d8) rfl ((if0 _ _).trans (feq hc8).2) (by decide) (by decide) ?_
        show Steps p.tables e below (T1.setTop (mkF m 15 #[.val (.int p0), .val (.int p1), .val (.int p2)] [])) t
        refine XS.iconst X1.here hx rfl (hb hby cov_d15) ?_
        exact kt
      exact ⟨_, (if_neg hc8).symm, K4⟩
  obtain ⟨fs, hr, hrun, hended, hW, hsame⟩ := X1.leave (v := some (.int (nar .boolean j16_s0))) (fun h => by rw [Bd.returns] at h; cases h)
  refine ⟨_, _, ?_, hrun, hended, _, _, rfl, ?_, ⟨_, rfl⟩, hW, hsame.mono (by decide) (by decide)⟩
  · skip
    have q := K5 _ (retN X1 hx (t := .boolean) Bd.returns (by simp) (hb hby cov_d16) hr)
    rw [hP0] at q; exact q
  · show QP (.int (fCov p0 p1 p2)) h0 n0 _ T1.heap _
    rw [e1]
    subst hj16_s0
    exact ⟨rfl, N1, rfl⟩
theorem own_bv (x y : BitVec 32) (s : Nat) (hs : s < 32) : ((x ^^^ y) &&& ((-1#32) <<< s) = 0#32) ↔ x >>> s = y >>> s := by
  constructor
  · intro h
    apply BitVec.eq_of_getLsbD_eq
    intro i hi
    have h2 := congrArg (fun z => z.getLsbD (s + i)) h
    simp only [BitVec.getLsbD_and, BitVec.getLsbD_xor, BitVec.getLsbD_shiftLeft, BitVec.getLsbD_zero] at h2
    simp only [BitVec.getLsbD_ushiftRight]
    by_cases q : s + i < 32
    · have e1 : (-1#32).getLsbD (s + i - s) = true := by
        have : (-1#32) = BitVec.allOnes 32 := by decide
        rw [this, BitVec.getLsbD_allOnes]; simp; omega
      rw [e1] at h2
      have e2 : ¬ s + i < s := by omega
      simpa [q, e2] using h2
    · rw [BitVec.getLsbD_of_ge _ _ (by omega), BitVec.getLsbD_of_ge _ _ (by omega)]
  · intro h
    apply BitVec.eq_of_getLsbD_eq
    intro i hi
    simp only [BitVec.getLsbD_and, BitVec.getLsbD_xor, BitVec.getLsbD_shiftLeft, BitVec.getLsbD_zero]
    by_cases q : i < s
    · simp [q]
    · have h2 := congrArg (fun z => z.getLsbD (i - s)) h
      simp only [BitVec.getLsbD_ushiftRight] at h2
      rw [show s + (i - s) = i by omega] at h2
      rw [h2]; simp
theorem own_iush (x a : Int32) (s : Nat) (hs : s < 32) (ha : a.toBitVec = BitVec.ofNat 32 s) : ((x.toUInt32 >>> a.toUInt32).toInt32).toBitVec = x.toBitVec >>> s := by
  show (x.toUInt32 >>> a.toUInt32).toBitVec = _
  rw [UInt32.toBitVec_shiftRight]
  show x.toBitVec >>> (a.toBitVec % 32#32) = _
  rw [ha]
  show x.toBitVec >>> (BitVec.ofNat 32 s % 32#32).toNat = _
  have : (BitVec.ofNat 32 s % 32#32).toNat = s := by
    rw [BitVec.toNat_umod]; simp; omega
  rw [this]
theorem own_k1 : ∀ k : Fin 33, k.val ≠ 0 → (((32 : Int32) - Int32.ofNat k.val) &&& 31).toBitVec = BitVec.ofNat 32 (32 - k.val) := by decide +kernel
theorem own_k2 : ∀ k : Fin 33, k.val ≠ 0 → (fMask (Int32.ofNat k.val)).toBitVec = (-1#32) <<< (32 - k.val) := by decide +kernel
theorem own_k3 : ∀ k : Fin 33, k.val ≠ 0 → Int32.ofNat k.val ≠ 0 := by decide +kernel
theorem own_cov (p0 a : Int32) (k : Fin 33) (hk : k.val ≠ 0) : ((a ^^^ p0) &&& fMask (Int32.ofNat k.val) = 0) ↔
    ((a.toUInt32 >>> (((32 : Int32) - Int32.ofNat k.val) &&& 31).toUInt32).toInt32) = ((p0.toUInt32 >>> (((32 : Int32) - Int32.ofNat k.val) &&& 31).toUInt32).toInt32) := by
  have hk2 := k.isLt
  rw [← Int32.toBitVec_inj, ← Int32.toBitVec_inj, own_iush _ _ (32 - k.val) (by omega) (own_k1 k hk), own_iush _ _ (32 - k.val) (by omega) (own_k1 k hk), ← own_bv _ _ _ (by omega), ← own_k2 k hk, Int32.toBitVec_and, Int32.toBitVec_xor]
  exact Iff.rfl
theorem own_plain (p0 : Int32) (p1 : Int32) (p2 : Int32) (p3 : Int32) (v7 : Int32) (v12 : Int32) (j70_6_2 : Int32) (j106_7 : Int32) (j124_s0 : Int32)
    (hv7 : v7 = ((p1 &&& (2147483647 : Int32)) % (33 : Int32)))
    (hv12 : v12 = (p3 &&& (3 : Int32)))
    (hj70_6_2 : j70_6_2 = (if v12 = (0 : Int32) then p2 else (if v12 = (1 : Int32) then (p0 ^^^ ((1 : Int32) <<< ((((p3.toUInt32 >>> ((2 : Int32) &&& 31).toUInt32).toInt32) &&& (31 : Int32)) &&& 31))) else (if v12 = (2 : Int32) then p0 else (p0 ^^^ ((p2.toUInt32 >>> ((((p3.toUInt32 >>> ((2 : Int32) &&& 31).toUInt32).toInt32) &&& (31 : Int32)) &&& 31).toUInt32).toInt32))))))
    (hj106_7 : j106_7 = (if v7 = (0 : Int32) then (1 : Int32) else (if ((j70_6_2.toUInt32 >>> (((32 : Int32) - v7) &&& 31).toUInt32).toInt32) = ((p0.toUInt32 >>> (((32 : Int32) - v7) &&& 31).toUInt32).toInt32) then (1 : Int32) else (0 : Int32))))
    (hj124_s0 : j124_s0 = (if (fCov p0 v7 j70_6_2) = j106_7 then (1 : Int32) else (0 : Int32))) :
    j124_s0 = 1 := by
  obtain ⟨k, hk⟩ := own_mod p1 33 33 (by decide) (by decide)
  rw [← hv7] at hk
  rw [hj124_s0, if_pos]
  by_cases hz : k.val = 0
  · have h0 : v7 = 0 := by rw [hk, hz]; rfl
    rw [hj106_7, if_pos h0, h0]
    have e : fMask 0 = 0 := by decide
    simp only [fCov, e, Int32.and_zero]
    rfl
  · have hn : v7 ≠ 0 := by rw [hk]; exact own_k3 k hz
    rw [hj106_7, if_neg hn]
    have q := own_cov p0 j70_6_2 k hz
    rw [← hk] at q
    simp only [fCov]
    by_cases r : ((j70_6_2 ^^^ p0) &&& fMask v7) = 0
    · rw [if_pos r, if_pos (q.mp r)]; rfl
    · rw [if_neg r, if_neg (fun z => r (q.mpr z))]; rfl
theorem law_pn : plainName "com/example/stridewise/stridewise/PrefixCoversPinLaw" = true := by first | (simp [plainName, overriddenIn]; done) | decide +kernel
theorem law_pd0 : parseMethodDescriptor "(III)Z" = some ⟨[.int, .int, .int], some .boolean⟩ := by decide +kernel
theorem law_ef (m : MethodId) (x0 : Int32) (x1 : Int32) (x2 : Int32) (x3 : Int32) : entryFrame m #[(.int x0), (.int x1), (.int x2), (.int x3)] maxLocals = mkF m 0 #[.val (.int x0), .val (.int x1), .val (.int x2), .val (.int x3), .unset, .unset, .unset, .unset] [] := by first | (simp [entryFrame, mkF, argsToLocals, Value.category, maxLocals]; done) | rfl
set_option maxRecDepth 65536 in
set_option maxHeartbeats 40000000 in
theorem rm_law (l : Launch) (Z : State) (a0 : Array Value) (hw : ∀ d ∈ tables_1, d.before a0 Z = true) (ws : List Jvm.Cond) (p0 : Int32) (p1 : Int32) (p2 : Int32) (p3 : Int32) (h0 : Heap) (n0 : Nat) (Z0 : n0 ≤ h0.size) :
    MetFree l x (head1 (Jvm.Cond.code x code maxLocals ret :: ws) room_1) (fun a U => a = #[(.int p0), (.int p1), (.int p2), (.int p3)] ∧ Z.Warmed39 U.vm ∧ U.heap = h0) (fun _ _ _ _ _ => True) (fun _ U o U' => ∃ v L, o = .returned v ∧ QL n0 v U'.heap L ∧ FrameEnd U o U' L room_1.cells room_1.slots) := by
  refine MetFree.of_bodySF (plainFor_of_name law_pn) hisR ?_
  intro p e s m args below meth c s₁ Bd hml0 hP hK
  obtain ⟨rfl, hZ, hh⟩ := hP
  have hx := Bd.exec
  have hby := Bd.bytes
  have hml : c.maxLocals = 8 := hml0
  have hown : s.vm.findClass "com/example/stridewise/stridewise/PrefixCoversPinLaw" = some m.cls := findClass_of_methodNamed Bd.named
  have hnm := (name_of_methodNamed Bd.named Bd.method).1
  have X0 : Stand p l e room_1 s m #[(.int p0), (.int p1), (.int p2), (.int p3)] below meth c s₁ [] 0 0 := Stand.of_body Bd
  have e0 : s₁.heap = h0 := by rw [← hh, Bd.state]; rfl
  have N0 := Fr.nil n0
  obtain ⟨P0, hP0⟩ : ∃ P0 : State → Prop, P0 = fun t => Steps p.tables e below (s₁.setTop (entryFrame m #[(.int p0), (.int p1), (.int p2), (.int p3)] maxLocals)) t := ⟨_, rfl⟩
  have K0 : ∀ t, Steps p.tables e below (s₁.setTop (mkF m 0 #[.val (.int p0), .val (.int p1), .val (.int p2), .val (.int p3), .unset, .unset, .unset, .unset] [])) t → P0 t := by
    intro t k; rw [hP0]; exact castTop (law_ef m p0 p1 p2 p3) k
  have K1 : ∀ t, Steps p.tables e below (s₁.setTop (mkF m 9 #[.val (.int p0), .val (.int p1), .val (.int p2), .val (.int p3), .val (.int ((p1 &&& (2147483647 : Int32)) % (33 : Int32))), .unset, .unset, .unset] [])) t → P0 t := by
    intro t kt
    refine K0 t ?_
    show Steps p.tables e below (s₁.setTop (mkF m 0 #[.val (.int p0), .val (.int p1), .val (.int p2), .val (.int p3), .unset, .unset, .unset, .unset] [])) t
    refine XS.iloadN X0.here hx rfl (hb hby at_0) rfl ?_
    show Steps p.tables e below (s₁.setTop (mkF m 1 #[.val (.int p0), .val (.int p1), .val (.int p2), .val (.int p3), .unset, .unset, .unset, .unset] [(.int p1)])) t
    refine X0.ldcInt hx hown (mvT hZ (hw _ (List.mem_of_getElem? (i := 0) rfl))) (g := (mkF m 1 #[.val (.int p0), .val (.int p1), .val (.int p2), .val (.int p3), .unset, .unset, .unset, .unset] [(.int p1)])) rfl (hb hby at_1) _ ?_
    show Steps p.tables e below (s₁.setTop (mkF m 3 #[.val (.int p0), .val (.int p1), .val (.int p2), .val (.int p3), .unset, .unset, .unset, .unset] [(.int (2147483647 : Int32)), (.int p1)])) t
    refine XS.iand X0.here hx rfl (hb hby at_3) rfl ?_
    show Steps p.tables e below (s₁.setTop (mkF m 4 #[.val (.int p0), .val (.int p1), .val (.int p2), .val (.int p3), .unset, .unset, .unset, .unset] [(.int (p1 &&& (2147483647 : Int32)))])) t
    refine XS.bipush X0.here hx rfl (hb hby at_4) ?_
    show Steps p.tables e below (s₁.setTop (mkF m 6 #[.val (.int p0), .val (.int p1), .val (.int p2), .val (.int p3), .unset, .unset, .unset, .unset] [(.int (33 : Int32)), (.int (p1 &&& (2147483647 : Int32)))])) t
    refine iremM X0 hx rfl (hb hby at_6) rfl (by decide) ?_
    show Steps p.tables e below (s₁.setTop (mkF m 7 #[.val (.int p0), .val (.int p1), .val (.int p2), .val (.int p3), .unset, .unset, .unset, .unset] [(.int ((p1 &&& (2147483647 : Int32)) % (33 : Int32)))])) t
    refine XS.istore X0.here hx rfl (hb hby at_7) rfl (l' := #[.val (.int p0), .val (.int p1), .val (.int p2), .val (.int p3), .val (.int ((p1 &&& (2147483647 : Int32)) % (33 : Int32))), .unset, .unset, .unset]) rfl ?_
    exact kt
  obtain ⟨v7, hv7, K2⟩ : ∃ v7 : Int32, v7 = ((p1 &&& (2147483647 : Int32)) % (33 : Int32)) ∧ ∀ t, Steps p.tables e below (s₁.setTop (mkF m 9 #[.val (.int p0), .val (.int p1), .val (.int p2), .val (.int p3), .val (.int v7), .unset, .unset, .unset] [])) t → P0 t := ⟨_, rfl, K1⟩
  have K3 : ∀ t, Steps p.tables e below (s₁.setTop (mkF m 14 #[.val (.int p0), .val (.int p1), .val (.int p2), .val (.int p3), .val (.int v7), .val (.int (p3 &&& (3 : Int32))), .unset, .unset] [])) t → P0 t := by
    intro t kt
    refine K2 t ?_
    show Steps p.tables e below (s₁.setTop (mkF m 9 #[.val (.int p0), .val (.int p1), .val (.int p2), .val (.int p3), .val (.int v7), .unset, .unset, .unset] [])) t
    refine XS.iloadN X0.here hx rfl (hb hby at_9) rfl ?_
    show Steps p.tables e below (s₁.setTop (mkF m 10 #[.val (.int p0), .val (.int p1), .val (.int p2), .val (.int p3), .val (.int v7), .unset, .unset, .unset] [(.int p3)])) t
    refine XS.iconst X0.here hx rfl (hb hby at_10) ?_
    show Steps p.tables e below (s₁.setTop (mkF m 11 #[.val (.int p0), .val (.int p1), .val (.int p2), .val (.int p3), .val (.int v7), .unset, .unset, .unset] [(.int (3 : Int32)), (.int p3)])) t
    refine XS.iand X0.here hx rfl (hb hby at_11) rfl ?_
    show Steps p.tables e below (s₁.setTop (mkF m 12 #[.val (.int p0), .val (.int p1), .val (.int p2), .val (.int p3), .val (.int v7), .unset, .unset, .unset] [(.int (p3 &&& (3 : Int32)))])) t
    refine XS.istore X0.here hx rfl (hb hby at_12) rfl (l' := #[.val (.int p0), .val (.int p1), .val (.int p2), .val (.int p3), .val (.int v7), .val (.int (p3 &&& (3 : Int32))), .unset, .unset]) rfl ?_
    exact kt
  obtain ⟨v12, hv12, K4⟩ : ∃ v12 : Int32, v12 = (p3 &&& (3 : Int32)) ∧ ∀ t, Steps p.tables e below (s₁.setTop (mkF m 14 #[.val (.int p0), .val (.int p1), .val (.int p2), .val (.int p3), .val (.int v7), .val (.int v12), .unset, .unset] [])) t → P0 t := ⟨_, rfl, K3⟩
  have K5 : ∀ t, Steps p.tables e below (s₁.setTop (mkF m 16 #[.val (.int p0), .val (.int p1), .val (.int p2), .val (.int p3), .val (.int v7), .val (.int v12), .unset, .unset] [(.int v12)])) t → P0 t := by
    intro t kt
    refine K4 t ?_
    show Steps p.tables e below (s₁.setTop (mkF m 14 #[.val (.int p0), .val (.int p1), .val (.int p2), .val (.int p3), .val (.int v7), .val (.int v12), .unset, .unset] [])) t
    refine XS.iload X0.here hx rfl (hb hby at_14) rfl ?_
    exact kt
  obtain ⟨j70_6_2, hj70_6_2, K17⟩ : ∃ (j70_6_2 : Int32), j70_6_2 = (if v12 = (0 : Int32) then p2 else (if v12 = (1 : Int32) then (p0 ^^^ ((1 : Int32) <<< ((((p3.toUInt32 >>> ((2 : Int32) &&& 31).toUInt32).toInt32) &&& (31 : Int32)) &&& 31))) else (if v12 = (2 : Int32) then p0 else (p0 ^^^ ((p2.toUInt32 >>> ((((p3.toUInt32 >>> ((2 : Int32) &&& 31).toUInt32).toInt32) &&& (31 : Int32)) &&& 31).toUInt32).toInt32))))) ∧ ∀ t, Steps p.tables e below (s₁.setTop (mkF m 70 #[.val (.int p0), .val (.int p1), .val (.int p2), .val (.int p3), .val (.int v7), .val (.int v12), .val (.int j70_6_2), .unset] [])) t → P0 t := by
    by_cases hc16 : v12 = (0 : Int32)
    · have K6 : ∀ t, Steps p.tables e below (s₁.setTop (mkF m 70 #[.val (.int p0), .val (.int p1), .val (.int p2), .val (.int p3), .val (.int v7), .val (.int v12), .val (.int p2), .unset] [])) t → P0 t := by
        intro t kt
        refine K5 t ?_
        show Steps p.tables e below (s₁.setTop (mkF m 16 #[.val (.int p0), .val (.int p1), .val (.int p2), .val (.int p3), .val (.int v7), .val (.int v12), .unset, .unset] [(.int v12)])) t
        refine XS.ifNo X0.here hx rfl (hb hby at_16) rfl ((if0 _ _).trans (teq hc16).2) ?_
        show Steps p.tables e below (s₁.setTop (mkF m 19 #[.val (.int p0), .val (.int p1), .val (.int p2), .val (.int p3), .val (.int v7), .val (.int v12), .unset, .unset] [])) t
        refine XS.iloadN X0.here hx rfl (hb hby at_19) rfl ?_
        show Steps p.tables e below (s₁.setTop (mkF m 20 #[.val (.int p0), .val (.int p1), .val (.int p2), .val (.int p3), .val (.int v7), .val (.int v12), .unset, .unset] [(.int p2)])) t
        refine XS.istore X0.here hx rfl (hb hby at_20) rfl (l' := #[.val (.int p0), .val (.int p1), .val (.int p2), .val (.int p3), .val (.int v7), .val (.int v12), .val (.int p2), .unset]) rfl ?_
        show Steps p.tables e below (s₁.setTop (mkF m 22 #[.val (.int p0), .val (.int p1), .val (.int p2), .val (.int p3), .val (.int v7), .val (.int v12), .val (.int p2), .unset] [])) t
        refine XS.goto X0.here hx rfl (pc0 := 22) (pc' := 70) rfl (hb hby at_22) (by decide) (by decide) ?_
        exact kt
      exact ⟨_, (if_pos hc16).symm, K6⟩
    · have K7 : ∀ t, Steps p.tables e below (s₁.setTop (mkF m 28 #[.val (.int p0), .val (.int p1), .val (.int p2), .val (.int p3), .val (.int v7), .val (.int v12), .unset, .unset] [(.int (1 : Int32)), (.int v12)])) t → P0 t := by
        intro t kt
        refine K5 t ?_
        show Steps p.tables e below (s₁.setTop (mkF m 16 #[.val (.int p0), .val (.int p1), .val (.int p2), .val (.int p3), .val (.int v7), .val (.int v12), .unset, .unset] [(.int v12)])) t
        refine XS.ifYes X0.here hx rfl (pc0 := 16) (pc' := 25) rfl (hb hby at_16) rfl ((if0 _ _).trans (feq hc16).2) (by decide) (by decide) ?_
        show Steps p.tables e below (s₁.setTop (mkF m 25 #[.val (.int p0), .val (.int p1), .val (.int p2), .val (.int p3), .val (.int v7), .val (.int v12), .unset, .unset] [])) t
        refine XS.iload X0.here hx rfl (hb hby at_25) rfl ?_
        show Steps p.tables e below (s₁.setTop (mkF m 27 #[.val (.int p0), .val (.int p1), .val (.int p2), .val (.int p3), .val (.int v7), .val (.int v12), .unset, .unset] [(.int v12)])) t
        refine XS.iconst X0.here hx rfl (hb hby at_27) ?_
        exact kt
      obtain ⟨j70_6_1, hj70_6_1, K16⟩ : ∃ (j70_6_1 : Int32), j70_6_1 = (if v12 = (1 : Int32) then (p0 ^^^ ((1 : Int32) <<< ((((p3.toUInt32 >>> ((2 : Int32) &&& 31).toUInt32).toInt32) &&& (31 : Int32)) &&& 31))) else (if v12 = (2 : Int32) then p0 else (p0 ^^^ ((p2.toUInt32 >>> ((((p3.toUInt32 >>> ((2 : Int32) &&& 31).toUInt32).toInt32) &&& (31 : Int32)) &&& 31).toUInt32).toInt32)))) ∧ ∀ t, Steps p.tables e below (s₁.setTop (mkF m 70 #[.val (.int p0), .val (.int p1), .val (.int p2), .val (.int p3), .val (.int v7), .val (.int v12), .val (.int j70_6_1), .unset] [])) t → P0 t := by
        by_cases hc28 : v12 = (1 : Int32)
        · have K8 : ∀ t, Steps p.tables e below (s₁.setTop (mkF m 43 #[.val (.int p0), .val (.int p1), .val (.int p2), .val (.int p3), .val (.int v7), .val (.int v12), .val (.int (p0 ^^^ ((1 : Int32) <<< ((((p3.toUInt32 >>> ((2 : Int32) &&& 31).toUInt32).toInt32) &&& (31 : Int32)) &&& 31)))), .unset] [])) t → P0 t := by
            intro t kt
            refine K7 t ?_
            show Steps p.tables e below (s₁.setTop (mkF m 28 #[.val (.int p0), .val (.int p1), .val (.int p2), .val (.int p3), .val (.int v7), .val (.int v12), .unset, .unset] [(.int (1 : Int32)), (.int v12)])) t
            refine XS.icmpNo X0.here hx rfl (hb hby at_28) rfl (teq hc28).2 ?_
            show Steps p.tables e below (s₁.setTop (mkF m 31 #[.val (.int p0), .val (.int p1), .val (.int p2), .val (.int p3), .val (.int v7), .val (.int v12), .unset, .unset] [])) t
            refine XS.iloadN X0.here hx rfl (hb hby at_31) rfl ?_
            show Steps p.tables e below (s₁.setTop (mkF m 32 #[.val (.int p0), .val (.int p1), .val (.int p2), .val (.int p3), .val (.int v7), .val (.int v12), .unset, .unset] [(.int p0)])) t
            refine XS.iconst X0.here hx rfl (hb hby at_32) ?_
            show Steps p.tables e below (s₁.setTop (mkF m 33 #[.val (.int p0), .val (.int p1), .val (.int p2), .val (.int p3), .val (.int v7), .val (.int v12), .unset, .unset] [(.int (1 : Int32)), (.int p0)])) t
            refine XS.iloadN X0.here hx rfl (hb hby at_33) rfl ?_
            show Steps p.tables e below (s₁.setTop (mkF m 34 #[.val (.int p0), .val (.int p1), .val (.int p2), .val (.int p3), .val (.int v7), .val (.int v12), .unset, .unset] [(.int p3), (.int (1 : Int32)), (.int p0)])) t
            refine XS.iconst X0.here hx rfl (hb hby at_34) ?_
            show Steps p.tables e below (s₁.setTop (mkF m 35 #[.val (.int p0), .val (.int p1), .val (.int p2), .val (.int p3), .val (.int v7), .val (.int v12), .unset, .unset] [(.int (2 : Int32)), (.int p3), (.int (1 : Int32)), (.int p0)])) t
            refine XS.iushr X0.here hx rfl (hb hby at_35) rfl ?_
            show Steps p.tables e below (s₁.setTop (mkF m 36 #[.val (.int p0), .val (.int p1), .val (.int p2), .val (.int p3), .val (.int v7), .val (.int v12), .unset, .unset] [(.int ((p3.toUInt32 >>> ((2 : Int32) &&& 31).toUInt32).toInt32)), (.int (1 : Int32)), (.int p0)])) t
            refine XS.bipush X0.here hx rfl (hb hby at_36) ?_
            show Steps p.tables e below (s₁.setTop (mkF m 38 #[.val (.int p0), .val (.int p1), .val (.int p2), .val (.int p3), .val (.int v7), .val (.int v12), .unset, .unset] [(.int (31 : Int32)), (.int ((p3.toUInt32 >>> ((2 : Int32) &&& 31).toUInt32).toInt32)), (.int (1 : Int32)), (.int p0)])) t
            refine XS.iand X0.here hx rfl (hb hby at_38) rfl ?_
            show Steps p.tables e below (s₁.setTop (mkF m 39 #[.val (.int p0), .val (.int p1), .val (.int p2), .val (.int p3), .val (.int v7), .val (.int v12), .unset, .unset] [(.int (((p3.toUInt32 >>> ((2 : Int32) &&& 31).toUInt32).toInt32) &&& (31 : Int32))), (.int (1 : Int32)), (.int p0)])) t
            refine XS.ishl X0.here hx rfl (hb hby at_39) rfl ?_
            show Steps p.tables e below (s₁.setTop (mkF m 40 #[.val (.int p0), .val (.int p1), .val (.int p2), .val (.int p3), .val (.int v7), .val (.int v12), .unset, .unset] [(.int ((1 : Int32) <<< ((((p3.toUInt32 >>> ((2 : Int32) &&& 31).toUInt32).toInt32) &&& (31 : Int32)) &&& 31))), (.int p0)])) t
            refine XS.ixor X0.here hx rfl (hb hby at_40) rfl ?_
            show Steps p.tables e below (s₁.setTop (mkF m 41 #[.val (.int p0), .val (.int p1), .val (.int p2), .val (.int p3), .val (.int v7), .val (.int v12), .unset, .unset] [(.int (p0 ^^^ ((1 : Int32) <<< ((((p3.toUInt32 >>> ((2 : Int32) &&& 31).toUInt32).toInt32) &&& (31 : Int32)) &&& 31))))])) t
            refine XS.istore X0.here hx rfl (hb hby at_41) rfl (l' := #[.val (.int p0), .val (.int p1), .val (.int p2), .val (.int p3), .val (.int v7), .val (.int v12), .val (.int (p0 ^^^ ((1 : Int32) <<< ((((p3.toUInt32 >>> ((2 : Int32) &&& 31).toUInt32).toInt32) &&& (31 : Int32)) &&& 31)))), .unset]) rfl ?_
            exact kt
          obtain ⟨v41, hv41, K9⟩ : ∃ v41 : Int32, v41 = (p0 ^^^ ((1 : Int32) <<< ((((p3.toUInt32 >>> ((2 : Int32) &&& 31).toUInt32).toInt32) &&& (31 : Int32)) &&& 31))) ∧ ∀ t, Steps p.tables e below (s₁.setTop (mkF m 43 #[.val (.int p0), .val (.int p1), .val (.int p2), .val (.int p3), .val (.int v7), .val (.int v12), .val (.int v41), .unset] [])) t → P0 t := ⟨_, rfl, K8⟩
          have K10 : ∀ t, Steps p.tables e below (s₁.setTop (mkF m 70 #[.val (.int p0), .val (.int p1), .val (.int p2), .val (.int p3), .val (.int v7), .val (.int v12), .val (.int v41), .unset] [])) t → P0 t := by
            intro t kt
            refine K9 t ?_
            show Steps p.tables e below (s₁.setTop (mkF m 43 #[.val (.int p0), .val (.int p1), .val (.int p2), .val (.int p3), .val (.int v7), .val (.int v12), .val (.int v41), .unset] [])) t
            refine XS.goto X0.here hx rfl (pc0 := 43) (pc' := 70) rfl (hb hby at_43) (by decide) (by decide) ?_
            exact kt
          subst hv41
          exact ⟨_, (if_pos hc28).symm, K10⟩
        · have K11 : ∀ t, Steps p.tables e below (s₁.setTop (mkF m 49 #[.val (.int p0), .val (.int p1), .val (.int p2), .val (.int p3), .val (.int v7), .val (.int v12), .unset, .unset] [(.int (2 : Int32)), (.int v12)])) t → P0 t := by
            intro t kt
            refine K7 t ?_
            show Steps p.tables e below (s₁.setTop (mkF m 28 #[.val (.int p0), .val (.int p1), .val (.int p2), .val (.int p3), .val (.int v7), .val (.int v12), .unset, .unset] [(.int (1 : Int32)), (.int v12)])) t
            refine XS.icmpYes X0.here hx rfl (pc0 := 28) (pc' := 46) rfl (hb hby at_28) rfl (feq hc28).2 (by decide) (by decide) ?_
            show Steps p.tables e below (s₁.setTop (mkF m 46 #[.val (.int p0), .val (.int p1), .val (.int p2), .val (.int p3), .val (.int v7), .val (.int v12), .unset, .unset] [])) t
            refine XS.iload X0.here hx rfl (hb hby at_46) rfl ?_
            show Steps p.tables e below (s₁.setTop (mkF m 48 #[.val (.int p0), .val (.int p1), .val (.int p2), .val (.int p3), .val (.int v7), .val (.int v12), .unset, .unset] [(.int v12)])) t
            refine XS.iconst X0.here hx rfl (hb hby at_48) ?_
            exact kt
          obtain ⟨j70_6, hj70_6, K15⟩ : ∃ (j70_6 : Int32), j70_6 = (if v12 = (2 : Int32) then p0 else (p0 ^^^ ((p2.toUInt32 >>> ((((p3.toUInt32 >>> ((2 : Int32) &&& 31).toUInt32).toInt32) &&& (31 : Int32)) &&& 31).toUInt32).toInt32))) ∧ ∀ t, Steps p.tables e below (s₁.setTop (mkF m 70 #[.val (.int p0), .val (.int p1), .val (.int p2), .val (.int p3), .val (.int v7), .val (.int v12), .val (.int j70_6), .unset] [])) t → P0 t := by
            by_cases hc49 : v12 = (2 : Int32)
            · have K12 : ∀ t, Steps p.tables e below (s₁.setTop (mkF m 70 #[.val (.int p0), .val (.int p1), .val (.int p2), .val (.int p3), .val (.int v7), .val (.int v12), .val (.int p0), .unset] [])) t → P0 t := by
                intro t kt
                refine K11 t ?_
                show Steps p.tables e below (s₁.setTop (mkF m 49 #[.val (.int p0), .val (.int p1), .val (.int p2), .val (.int p3), .val (.int v7), .val (.int v12), .unset, .unset] [(.int (2 : Int32)), (.int v12)])) t
                refine XS.icmpNo X0.here hx rfl (hb hby at_49) rfl (teq hc49).2 ?_
                show Steps p.tables e below (s₁.setTop (mkF m 52 #[.val (.int p0), .val (.int p1), .val (.int p2), .val (.int p3), .val (.int v7), .val (.int v12), .unset, .unset] [])) t
                refine XS.iloadN X0.here hx rfl (hb hby at_52) rfl ?_
                show Steps p.tables e below (s₁.setTop (mkF m 53 #[.val (.int p0), .val (.int p1), .val (.int p2), .val (.int p3), .val (.int v7), .val (.int v12), .unset, .unset] [(.int p0)])) t
                refine XS.istore X0.here hx rfl (hb hby at_53) rfl (l' := #[.val (.int p0), .val (.int p1), .val (.int p2), .val (.int p3), .val (.int v7), .val (.int v12), .val (.int p0), .unset]) rfl ?_
                show Steps p.tables e below (s₁.setTop (mkF m 55 #[.val (.int p0), .val (.int p1), .val (.int p2), .val (.int p3), .val (.int v7), .val (.int v12), .val (.int p0), .unset] [])) t
                refine XS.goto X0.here hx rfl (pc0 := 55) (pc' := 70) rfl (hb hby at_55) (by decide) (by decide) ?_
                exact kt
              exact ⟨_, (if_pos hc49).symm, K12⟩
            · have K13 : ∀ t, Steps p.tables e below (s₁.setTop (mkF m 70 #[.val (.int p0), .val (.int p1), .val (.int p2), .val (.int p3), .val (.int v7), .val (.int v12), .val (.int (p0 ^^^ ((p2.toUInt32 >>> ((((p3.toUInt32 >>> ((2 : Int32) &&& 31).toUInt32).toInt32) &&& (31 : Int32)) &&& 31).toUInt32).toInt32))), .unset] [])) t → P0 t := by
                intro t kt
                refine K11 t ?_
                show Steps p.tables e below (s₁.setTop (mkF m 49 #[.val (.int p0), .val (.int p1), .val (.int p2), .val (.int p3), .val (.int v7), .val (.int v12), .unset, .unset] [(.int (2 : Int32)), (.int v12)])) t
                refine XS.icmpYes X0.here hx rfl (pc0 := 49) (pc' := 58) rfl (hb hby at_49) rfl (feq hc49).2 (by decide) (by decide) ?_
                show Steps p.tables e below (s₁.setTop (mkF m 58 #[.val (.int p0), .val (.int p1), .val (.int p2), .val (.int p3), .val (.int v7), .val (.int v12), .unset, .unset] [])) t
                refine XS.iloadN X0.here hx rfl (hb hby at_58) rfl ?_
                show Steps p.tables e below (s₁.setTop (mkF m 59 #[.val (.int p0), .val (.int p1), .val (.int p2), .val (.int p3), .val (.int v7), .val (.int v12), .unset, .unset] [(.int p0)])) t
                refine XS.iloadN X0.here hx rfl (hb hby at_59) rfl ?_
                show Steps p.tables e below (s₁.setTop (mkF m 60 #[.val (.int p0), .val (.int p1), .val (.int p2), .val (.int p3), .val (.int v7), .val (.int v12), .unset, .unset] [(.int p2), (.int p0)])) t
                refine XS.iloadN X0.here hx rfl (hb hby at_60) rfl ?_
                show Steps p.tables e below (s₁.setTop (mkF m 61 #[.val (.int p0), .val (.int p1), .val (.int p2), .val (.int p3), .val (.int v7), .val (.int v12), .unset, .unset] [(.int p3), (.int p2), (.int p0)])) t
                refine XS.iconst X0.here hx rfl (hb hby at_61) ?_
                show Steps p.tables e below (s₁.setTop (mkF m 62 #[.val (.int p0), .val (.int p1), .val (.int p2), .val (.int p3), .val (.int v7), .val (.int v12), .unset, .unset] [(.int (2 : Int32)), (.int p3), (.int p2), (.int p0)])) t
                refine XS.iushr X0.here hx rfl (hb hby at_62) rfl ?_
                show Steps p.tables e below (s₁.setTop (mkF m 63 #[.val (.int p0), .val (.int p1), .val (.int p2), .val (.int p3), .val (.int v7), .val (.int v12), .unset, .unset] [(.int ((p3.toUInt32 >>> ((2 : Int32) &&& 31).toUInt32).toInt32)), (.int p2), (.int p0)])) t
                refine XS.bipush X0.here hx rfl (hb hby at_63) ?_
                show Steps p.tables e below (s₁.setTop (mkF m 65 #[.val (.int p0), .val (.int p1), .val (.int p2), .val (.int p3), .val (.int v7), .val (.int v12), .unset, .unset] [(.int (31 : Int32)), (.int ((p3.toUInt32 >>> ((2 : Int32) &&& 31).toUInt32).toInt32)), (.int p2), (.int p0)])) t
                refine XS.iand X0.here hx rfl (hb hby at_65) rfl ?_
                show Steps p.tables e below (s₁.setTop (mkF m 66 #[.val (.int p0), .val (.int p1), .val (.int p2), .val (.int p3), .val (.int v7), .val (.int v12), .unset, .unset] [(.int (((p3.toUInt32 >>> ((2 : Int32) &&& 31).toUInt32).toInt32) &&& (31 : Int32))), (.int p2), (.int p0)])) t
                refine XS.iushr X0.here hx rfl (hb hby at_66) rfl ?_
                show Steps p.tables e below (s₁.setTop (mkF m 67 #[.val (.int p0), .val (.int p1), .val (.int p2), .val (.int p3), .val (.int v7), .val (.int v12), .unset, .unset] [(.int ((p2.toUInt32 >>> ((((p3.toUInt32 >>> ((2 : Int32) &&& 31).toUInt32).toInt32) &&& (31 : Int32)) &&& 31).toUInt32).toInt32)), (.int p0)])) t
                refine XS.ixor X0.here hx rfl (hb hby at_67) rfl ?_
                show Steps p.tables e below (s₁.setTop (mkF m 68 #[.val (.int p0), .val (.int p1), .val (.int p2), .val (.int p3), .val (.int v7), .val (.int v12), .unset, .unset] [(.int (p0 ^^^ ((p2.toUInt32 >>> ((((p3.toUInt32 >>> ((2 : Int32) &&& 31).toUInt32).toInt32) &&& (31 : Int32)) &&& 31).toUInt32).toInt32)))])) t
                refine XS.istore X0.here hx rfl (hb hby at_68) rfl (l' := #[.val (.int p0), .val (.int p1), .val (.int p2), .val (.int p3), .val (.int v7), .val (.int v12), .val (.int (p0 ^^^ ((p2.toUInt32 >>> ((((p3.toUInt32 >>> ((2 : Int32) &&& 31).toUInt32).toInt32) &&& (31 : Int32)) &&& 31).toUInt32).toInt32))), .unset]) rfl ?_
                exact kt
              obtain ⟨v68, hv68, K14⟩ : ∃ v68 : Int32, v68 = (p0 ^^^ ((p2.toUInt32 >>> ((((p3.toUInt32 >>> ((2 : Int32) &&& 31).toUInt32).toInt32) &&& (31 : Int32)) &&& 31).toUInt32).toInt32)) ∧ ∀ t, Steps p.tables e below (s₁.setTop (mkF m 70 #[.val (.int p0), .val (.int p1), .val (.int p2), .val (.int p3), .val (.int v7), .val (.int v12), .val (.int v68), .unset] [])) t → P0 t := ⟨_, rfl, K13⟩
              subst hv68
              exact ⟨_, (if_neg hc49).symm, K14⟩
          subst hj70_6
          exact ⟨_, (if_neg hc28).symm, K15⟩
      subst hj70_6_1
      exact ⟨_, (if_neg hc16).symm, K16⟩
  have K18 : ∀ t, Steps p.tables e below (s₁.setTop (mkF m 72 #[.val (.int p0), .val (.int p1), .val (.int p2), .val (.int p3), .val (.int v7), .val (.int v12), .val (.int j70_6_2), .unset] [(.int v7)])) t → P0 t := by
    intro t kt
    refine K17 t ?_
    show Steps p.tables e below (s₁.setTop (mkF m 70 #[.val (.int p0), .val (.int p1), .val (.int p2), .val (.int p3), .val (.int v7), .val (.int v12), .val (.int j70_6_2), .unset] [])) t
    refine XS.iload X0.here hx rfl (hb hby at_70) rfl ?_
    exact kt
  obtain ⟨j106_7, hj106_7, K25⟩ : ∃ (j106_7 : Int32), j106_7 = (if v7 = (0 : Int32) then (1 : Int32) else (if ((j70_6_2.toUInt32 >>> (((32 : Int32) - v7) &&& 31).toUInt32).toInt32) = ((p0.toUInt32 >>> (((32 : Int32) - v7) &&& 31).toUInt32).toInt32) then (1 : Int32) else (0 : Int32))) ∧ ∀ t, Steps p.tables e below (s₁.setTop (mkF m 106 #[.val (.int p0), .val (.int p1), .val (.int p2), .val (.int p3), .val (.int v7), .val (.int v12), .val (.int j70_6_2), .val (.int j106_7)] [])) t → P0 t := by
    by_cases hc72 : v7 = (0 : Int32)
    · have K19 : ∀ t, Steps p.tables e below (s₁.setTop (mkF m 106 #[.val (.int p0), .val (.int p1), .val (.int p2), .val (.int p3), .val (.int v7), .val (.int v12), .val (.int j70_6_2), .val (.int (1 : Int32))] [])) t → P0 t := by
        intro t kt
        refine K18 t ?_
        show Steps p.tables e below (s₁.setTop (mkF m 72 #[.val (.int p0), .val (.int p1), .val (.int p2), .val (.int p3), .val (.int v7), .val (.int v12), .val (.int j70_6_2), .unset] [(.int v7)])) t
        refine XS.ifNo X0.here hx rfl (hb hby at_72) rfl ((if0 _ _).trans (teq hc72).2) ?_
        show Steps p.tables e below (s₁.setTop (mkF m 75 #[.val (.int p0), .val (.int p1), .val (.int p2), .val (.int p3), .val (.int v7), .val (.int v12), .val (.int j70_6_2), .unset] [])) t
        refine XS.iconst X0.here hx rfl (hb hby at_75) ?_
        show Steps p.tables e below (s₁.setTop (mkF m 76 #[.val (.int p0), .val (.int p1), .val (.int p2), .val (.int p3), .val (.int v7), .val (.int v12), .val (.int j70_6_2), .unset] [(.int (1 : Int32))])) t
        refine XS.istore X0.here hx rfl (hb hby at_76) rfl (l' := #[.val (.int p0), .val (.int p1), .val (.int p2), .val (.int p3), .val (.int v7), .val (.int v12), .val (.int j70_6_2), .val (.int (1 : Int32))]) rfl ?_
        show Steps p.tables e below (s₁.setTop (mkF m 78 #[.val (.int p0), .val (.int p1), .val (.int p2), .val (.int p3), .val (.int v7), .val (.int v12), .val (.int j70_6_2), .val (.int (1 : Int32))] [])) t
        refine XS.goto X0.here hx rfl (pc0 := 78) (pc' := 106) rfl (hb hby at_78) (by decide) (by decide) ?_
        exact kt
      exact ⟨_, (if_pos hc72).symm, K19⟩
    · have K20 : ∀ t, Steps p.tables e below (s₁.setTop (mkF m 96 #[.val (.int p0), .val (.int p1), .val (.int p2), .val (.int p3), .val (.int v7), .val (.int v12), .val (.int j70_6_2), .unset] [(.int ((p0.toUInt32 >>> (((32 : Int32) - v7) &&& 31).toUInt32).toInt32)), (.int ((j70_6_2.toUInt32 >>> (((32 : Int32) - v7) &&& 31).toUInt32).toInt32))])) t → P0 t := by
        intro t kt
        refine K18 t ?_
        show Steps p.tables e below (s₁.setTop (mkF m 72 #[.val (.int p0), .val (.int p1), .val (.int p2), .val (.int p3), .val (.int v7), .val (.int v12), .val (.int j70_6_2), .unset] [(.int v7)])) t
        refine XS.ifYes X0.here hx rfl (pc0 := 72) (pc' := 81) rfl (hb hby at_72) rfl ((if0 _ _).trans (feq hc72).2) (by decide) (by decide) ?_
        show Steps p.tables e below (s₁.setTop (mkF m 81 #[.val (.int p0), .val (.int p1), .val (.int p2), .val (.int p3), .val (.int v7), .val (.int v12), .val (.int j70_6_2), .unset] [])) t
        refine XS.iload X0.here hx rfl (hb hby at_81) rfl ?_
        show Steps p.tables e below (s₁.setTop (mkF m 83 #[.val (.int p0), .val (.int p1), .val (.int p2), .val (.int p3), .val (.int v7), .val (.int v12), .val (.int j70_6_2), .unset] [(.int j70_6_2)])) t
        refine XS.bipush X0.here hx rfl (hb hby at_83) ?_
        show Steps p.tables e below (s₁.setTop (mkF m 85 #[.val (.int p0), .val (.int p1), .val (.int p2), .val (.int p3), .val (.int v7), .val (.int v12), .val (.int j70_6_2), .unset] [(.int (32 : Int32)), (.int j70_6_2)])) t
        refine XS.iload X0.here hx rfl (hb hby at_85) rfl ?_
        show Steps p.tables e below (s₁.setTop (mkF m 87 #[.val (.int p0), .val (.int p1), .val (.int p2), .val (.int p3), .val (.int v7), .val (.int v12), .val (.int j70_6_2), .unset] [(.int v7), (.int (32 : Int32)), (.int j70_6_2)])) t
        refine XS.isub X0.here hx rfl (hb hby at_87) rfl ?_
        show Steps p.tables e below (s₁.setTop (mkF m 88 #[.val (.int p0), .val (.int p1), .val (.int p2), .val (.int p3), .val (.int v7), .val (.int v12), .val (.int j70_6_2), .unset] [(.int ((32 : Int32) - v7)), (.int j70_6_2)])) t
        refine XS.iushr X0.here hx rfl (hb hby at_88) rfl ?_
        show Steps p.tables e below (s₁.setTop (mkF m 89 #[.val (.int p0), .val (.int p1), .val (.int p2), .val (.int p3), .val (.int v7), .val (.int v12), .val (.int j70_6_2), .unset] [(.int ((j70_6_2.toUInt32 >>> (((32 : Int32) - v7) &&& 31).toUInt32).toInt32))])) t
        refine XS.iloadN X0.here hx rfl (hb hby at_89) rfl ?_
        show Steps p.tables e below (s₁.setTop (mkF m 90 #[.val (.int p0), .val (.int p1), .val (.int p2), .val (.int p3), .val (.int v7), .val (.int v12), .val (.int j70_6_2), .unset] [(.int p0), (.int ((j70_6_2.toUInt32 >>> (((32 : Int32) - v7) &&& 31).toUInt32).toInt32))])) t
        refine XS.bipush X0.here hx rfl (hb hby at_90) ?_
        show Steps p.tables e below (s₁.setTop (mkF m 92 #[.val (.int p0), .val (.int p1), .val (.int p2), .val (.int p3), .val (.int v7), .val (.int v12), .val (.int j70_6_2), .unset] [(.int (32 : Int32)), (.int p0), (.int ((j70_6_2.toUInt32 >>> (((32 : Int32) - v7) &&& 31).toUInt32).toInt32))])) t
        refine XS.iload X0.here hx rfl (hb hby at_92) rfl ?_
        show Steps p.tables e below (s₁.setTop (mkF m 94 #[.val (.int p0), .val (.int p1), .val (.int p2), .val (.int p3), .val (.int v7), .val (.int v12), .val (.int j70_6_2), .unset] [(.int v7), (.int (32 : Int32)), (.int p0), (.int ((j70_6_2.toUInt32 >>> (((32 : Int32) - v7) &&& 31).toUInt32).toInt32))])) t
        refine XS.isub X0.here hx rfl (hb hby at_94) rfl ?_
        show Steps p.tables e below (s₁.setTop (mkF m 95 #[.val (.int p0), .val (.int p1), .val (.int p2), .val (.int p3), .val (.int v7), .val (.int v12), .val (.int j70_6_2), .unset] [(.int ((32 : Int32) - v7)), (.int p0), (.int ((j70_6_2.toUInt32 >>> (((32 : Int32) - v7) &&& 31).toUInt32).toInt32))])) t
        refine XS.iushr X0.here hx rfl (hb hby at_95) rfl ?_
        exact kt
      obtain ⟨j104_s0, hj104_s0, K23⟩ : ∃ (j104_s0 : Int32), j104_s0 = (if ((j70_6_2.toUInt32 >>> (((32 : Int32) - v7) &&& 31).toUInt32).toInt32) = ((p0.toUInt32 >>> (((32 : Int32) - v7) &&& 31).toUInt32).toInt32) then (1 : Int32) else (0 : Int32)) ∧ ∀ t, Steps p.tables e below (s₁.setTop (mkF m 104 #[.val (.int p0), .val (.int p1), .val (.int p2), .val (.int p3), .val (.int v7), .val (.int v12), .val (.int j70_6_2), .unset] [(.int j104_s0)])) t → P0 t := by
        by_cases hc96 : ((j70_6_2.toUInt32 >>> (((32 : Int32) - v7) &&& 31).toUInt32).toInt32) = ((p0.toUInt32 >>> (((32 : Int32) - v7) &&& 31).toUInt32).toInt32)
        · have K21 : ∀ t, Steps p.tables e below (s₁.setTop (mkF m 104 #[.val (.int p0), .val (.int p1), .val (.int p2), .val (.int p3), .val (.int v7), .val (.int v12), .val (.int j70_6_2), .unset] [(.int (1 : Int32))])) t → P0 t := by
            intro t kt
            refine K20 t ?_
            show Steps p.tables e below (s₁.setTop (mkF m 96 #[.val (.int p0), .val (.int p1), .val (.int p2), .val (.int p3), .val (.int v7), .val (.int v12), .val (.int j70_6_2), .unset] [(.int ((p0.toUInt32 >>> (((32 : Int32) - v7) &&& 31).toUInt32).toInt32)), (.int ((j70_6_2.toUInt32 >>> (((32 : Int32) - v7) &&& 31).toUInt32).toInt32))])) t
            refine XS.icmpNo X0.here hx rfl (hb hby at_96) rfl (teq hc96).2 ?_
            show Steps p.tables e below (s₁.setTop (mkF m 99 #[.val (.int p0), .val (.int p1), .val (.int p2), .val (.int p3), .val (.int v7), .val (.int v12), .val (.int j70_6_2), .unset] [])) t
            refine XS.iconst X0.here hx rfl (hb hby at_99) ?_
            show Steps p.tables e below (s₁.setTop (mkF m 100 #[.val (.int p0), .val (.int p1), .val (.int p2), .val (.int p3), .val (.int v7), .val (.int v12), .val (.int j70_6_2), .unset] [(.int (1 : Int32))])) t
            refine XS.goto X0.here hx rfl (pc0 := 100) (pc' := 104) rfl (hb hby at_100) (by decide) (by decide) ?_
            exact kt
          exact ⟨_, (if_pos hc96).symm, K21⟩
        · have K22 : ∀ t, Steps p.tables e below (s₁.setTop (mkF m 104 #[.val (.int p0), .val (.int p1), .val (.int p2), .val (.int p3), .val (.int v7), .val (.int v12), .val (.int j70_6_2), .unset] [(.int (0 : Int32))])) t → P0 t := by
            intro t kt
            refine K20 t ?_
            show Steps p.tables e below (s₁.setTop (mkF m 96 #[.val (.int p0), .val (.int p1), .val (.int p2), .val (.int p3), .val (.int v7), .val (.int v12), .val (.int j70_6_2), .unset] [(.int ((p0.toUInt32 >>> (((32 : Int32) - v7) &&& 31).toUInt32).toInt32)), (.int ((j70_6_2.toUInt32 >>> (((32 : Int32) - v7) &&& 31).toUInt32).toInt32))])) t
            refine XS.icmpYes X0.here hx rfl (pc0 := 96) (pc' := 103) rfl (hb hby at_96) rfl (feq hc96).2 (by decide) (by decide) ?_
            show Steps p.tables e below (s₁.setTop (mkF m 103 #[.val (.int p0), .val (.int p1), .val (.int p2), .val (.int p3), .val (.int v7), .val (.int v12), .val (.int j70_6_2), .unset] [])) t
            refine XS.iconst X0.here hx rfl (hb hby at_103) ?_
            exact kt
          exact ⟨_, (if_neg hc96).symm, K22⟩
      have K24 : ∀ t, Steps p.tables e below (s₁.setTop (mkF m 106 #[.val (.int p0), .val (.int p1), .val (.int p2), .val (.int p3), .val (.int v7), .val (.int v12), .val (.int j70_6_2), .val (.int j104_s0)] [])) t → P0 t := by
        intro t kt
        refine K23 t ?_
        show Steps p.tables e below (s₁.setTop (mkF m 104 #[.val (.int p0), .val (.int p1), .val (.int p2), .val (.int p3), .val (.int v7), .val (.int v12), .val (.int j70_6_2), .unset] [(.int j104_s0)])) t
        refine XS.istore X0.here hx rfl (hb hby at_104) rfl (l' := #[.val (.int p0), .val (.int p1), .val (.int p2), .val (.int p3), .val (.int v7), .val (.int v12), .val (.int j70_6_2), .val (.int j104_s0)]) rfl ?_
        exact kt
      subst hj104_s0
      exact ⟨_, (if_neg hc72).symm, K24⟩
  obtain ⟨_, _, ⟨T26, L26, k26, n26⟩, -, X26, ⟨Lc26, hQ26, l26, y26, z26⟩, st26⟩ := Jvm.LawKit.callS X0 hx (y := (⟨"com/example/stridewise/stridewise/Prefix", "covers", "(III)Z"⟩ : MethodName)) hown (mvT hZ (hw _ (List.mem_of_getElem? (i := 1) rfl))) (mvT hZ (hw _ (List.mem_of_getElem? (i := 2) rfl))) (mvT hZ (hw _ (List.mem_of_getElem? (i := 3) rfl))) (mvT hZ (hw _ (List.mem_of_getElem? (i := 4) rfl))) (by decide) (backOf (W := 0) (rm_cov l Z a0 hw [] p0 v7 j70_6_2 h0 n0 Z0 ) hZ (hw _ (List.mem_of_getElem? (i := 4) rfl)) (hw _ (List.mem_of_getElem? (i := 3) rfl)) (by decide) (by decide)) (g := (mkF m 111 #[.val (.int p0), .val (.int p1), .val (.int p2), .val (.int p3), .val (.int v7), .val (.int v12), .val (.int j70_6_2), .val (.int j106_7)] [(.int j70_6_2), (.int v7), (.int p0)])) rfl (by rw [hml]; rfl) (argsL := [(.int p0), (.int v7), (.int j70_6_2)]) (rest := []) (lenOf law_pd0 rfl) rfl (by show 2 * 0 + _ ≤ _; exact Nat.le_of_eq rfl) (hb hby at_111) (fun _ _ => ⟨rfl, e0, (by decide : 0 + 0 ≤ _), (by decide : 0 + 0 ≤ _)⟩)
  dsimp only [Pt.U, Pt.locs, Pt.cells, Pt.slots] at X26 l26 y26 z26 st26 hQ26
  subst l26 y26 z26
  obtain ⟨rfl, N26q, e26⟩ := hQ26
  have N26 := Fr.app N0 N26q
  have K27 : ∀ t, Steps p.tables e below (T26.setTop (mkF m 116 #[.val (.int p0), .val (.int p1), .val (.int p2), .val (.int p3), .val (.int v7), .val (.int v12), .val (.int j70_6_2), .val (.int j106_7)] [(.int j106_7), (.int (fCov p0 v7 j70_6_2))])) t → P0 t := by
    intro t kt
    refine K25 t ?_
    show Steps p.tables e below (s₁.setTop (mkF m 106 #[.val (.int p0), .val (.int p1), .val (.int p2), .val (.int p3), .val (.int v7), .val (.int v12), .val (.int j70_6_2), .val (.int j106_7)] [])) t
    refine XS.iloadN X0.here hx rfl (hb hby at_106) rfl ?_
    show Steps p.tables e below (s₁.setTop (mkF m 107 #[.val (.int p0), .val (.int p1), .val (.int p2), .val (.int p3), .val (.int v7), .val (.int v12), .val (.int j70_6_2), .val (.int j106_7)] [(.int p0)])) t
    refine XS.iload X0.here hx rfl (hb hby at_107) rfl ?_
    show Steps p.tables e below (s₁.setTop (mkF m 109 #[.val (.int p0), .val (.int p1), .val (.int p2), .val (.int p3), .val (.int v7), .val (.int v12), .val (.int j70_6_2), .val (.int j106_7)] [(.int v7), (.int p0)])) t
    refine XS.iload X0.here hx rfl (hb hby at_109) rfl ?_
    show Steps p.tables e below (s₁.setTop (mkF m 111 #[.val (.int p0), .val (.int p1), .val (.int p2), .val (.int p3), .val (.int v7), .val (.int v12), .val (.int j70_6_2), .val (.int j106_7)] [(.int j70_6_2), (.int v7), (.int p0)])) t
    refine st26 _ ?_
    show Steps p.tables e below (T26.setTop (mkF m 114 #[.val (.int p0), .val (.int p1), .val (.int p2), .val (.int p3), .val (.int v7), .val (.int v12), .val (.int j70_6_2), .val (.int j106_7)] [(.int (fCov p0 v7 j70_6_2))])) t
    refine XS.iload X26.here hx rfl (hb hby at_114) rfl ?_
    exact kt
  obtain ⟨j124_s0, hj124_s0, K30⟩ : ∃ (j124_s0 : Int32), j124_s0 = (if (fCov p0 v7 j70_6_2) = j106_7 then (1 : Int32) else (0 : Int32)) ∧ ∀ t, Steps p.tables e below (T26.setTop (mkF m 124 #[.val (.int p0), .val (.int p1), .val (.int p2), .val (.int p3), .val (.int v7), .val (.int v12), .val (.int j70_6_2), .val (.int j106_7)] [(.int j124_s0)])) t → P0 t := by
    by_cases hc116 : (fCov p0 v7 j70_6_2) = j106_7
    · have K28 : ∀ t, Steps p.tables e below (T26.setTop (mkF m 124 #[.val (.int p0), .val (.int p1), .val (.int p2), .val (.int p3), .val (.int v7), .val (.int v12), .val (.int j70_6_2), .val (.int j106_7)] [(.int (1 : Int32))])) t → P0 t := by
        intro t kt
        refine K27 t ?_
        show Steps p.tables e below (T26.setTop (mkF m 116 #[.val (.int p0), .val (.int p1), .val (.int p2), .val (.int p3), .val (.int v7), .val (.int v12), .val (.int j70_6_2), .val (.int j106_7)] [(.int j106_7), (.int (fCov p0 v7 j70_6_2))])) t
        refine XS.icmpNo X26.here hx rfl (hb hby at_116) rfl (teq hc116).2 ?_
        show Steps p.tables e below (T26.setTop (mkF m 119 #[.val (.int p0), .val (.int p1), .val (.int p2), .val (.int p3), .val (.int v7), .val (.int v12), .val (.int j70_6_2), .val (.int j106_7)] [])) t
        refine XS.iconst X26.here hx rfl (hb hby at_119) ?_
        show Steps p.tables e below (T26.setTop (mkF m 120 #[.val (.int p0), .val (.int p1), .val (.int p2), .val (.int p3), .val (.int v7), .val (.int v12), .val (.int j70_6_2), .val (.int j106_7)] [(.int (1 : Int32))])) t
        refine XS.goto X26.here hx rfl (pc0 := 120) (pc' := 124) rfl (hb hby at_120) (by decide) (by decide) ?_
        exact kt
      exact ⟨_, (if_pos hc116).symm, K28⟩
    · have K29 : ∀ t, Steps p.tables e below (T26.setTop (mkF m 124 #[.val (.int p0), .val (.int p1), .val (.int p2), .val (.int p3), .val (.int v7), .val (.int v12), .val (.int j70_6_2), .val (.int j106_7)] [(.int (0 : Int32))])) t → P0 t := by
        intro t kt
        refine K27 t ?_
        show Steps p.tables e below (T26.setTop (mkF m 116 #[.val (.int p0), .val (.int p1), .val (.int p2), .val (.int p3), .val (.int v7), .val (.int v12), .val (.int j70_6_2), .val (.int j106_7)] [(.int j106_7), (.int (fCov p0 v7 j70_6_2))])) t
        refine XS.icmpYes X26.here hx rfl (pc0 := 116) (pc' := 123) rfl (hb hby at_116) rfl (feq hc116).2 (by decide) (by decide) ?_
        show Steps p.tables e below (T26.setTop (mkF m 123 #[.val (.int p0), .val (.int p1), .val (.int p2), .val (.int p3), .val (.int v7), .val (.int v12), .val (.int j70_6_2), .val (.int j106_7)] [])) t
        refine XS.iconst X26.here hx rfl (hb hby at_123) ?_
        exact kt
      exact ⟨_, (if_neg hc116).symm, K29⟩
  have hres : j124_s0 = 1 := own_plain p0 p1 p2 p3 v7 v12 j70_6_2 j106_7 j124_s0 hv7 hv12 hj70_6_2 hj106_7 hj124_s0
  obtain ⟨fs, hr, hrun, hended, hW, hsame⟩ := X26.leave (v := some (.int (1 : Int32))) (fun h => by rw [Bd.returns] at h; cases h)
  refine ⟨_, _, ?_, hrun, hended, _, _, rfl, ?_, ⟨_, rfl⟩, hW, hsame.mono (by decide) (by decide)⟩
  · rw [hres] at K30
    have q := K30 _ (retN X26 hx (t := .boolean) Bd.returns (by simp) (hb hby at_124) hr)
    rw [hP0] at q; exact q
  · exact ⟨rfl, N26⟩
set_option maxRecDepth 65536 in
set_option maxHeartbeats 40000000 in
theorem comes_1 {Post : Tables → Env → Array Value → State → Outcome → State → Prop} (hpost : ∀ tb e args s v u, (limb_1_1.after args s (.returned v) u = true ∧ limb_1_2.after args s (.returned v) u = true ∧ True) → FrameEnd s (.returned v) u (Jvm.fieldLocs frame_1_writes args s ++ Jvm.arrayLocs frame_1_arrays args s ++ Jvm.staticLocs frame_1_statics s) 0 0 → Post tb e args s (.returned v) u) :
    ArmFor flags0 classFile x code maxLocals ret World_1 tables_1 room_1 Calls_1 rest_1 Pre_1 Post := by
  intro l hfl _ _ p e ha hc hk s m args below hf hA hF happ hP
  obtain ⟨hcalls, hrest, hpre⟩ := hP
  obtain ⟨-, -, -, hnamed, -, -, -, hat⟩ := (Spec.applies_iff hf).mp happ
  obtain ⟨hg, hn⟩ := and_e (Cond.before_iff.mp (show (Jvm.Cond.and given_1 narrow_1).before args s = true from hpre))
  obtain ⟨gc, gr0⟩ := and_e hg
  obtain ⟨ga0, gr1⟩ := and_e gr0
  obtain ⟨ga1, gr2⟩ := and_e gr1
  obtain ⟨ga2, gr3⟩ := and_e gr2
  obtain ⟨w0, w1, w2, w3, rfl⟩ : ∃ w0 w1 w2 w3 : Value, args = #[w0, w1, w2, w3] := by
    have hs : args.size = 4 := by simpa [Cond.value, given_1] using gc
    obtain ⟨L⟩ := args
    match L, hs with
    | [w0, w1, w2, w3], _ => exact ⟨w0, w1, w2, w3, rfl⟩
  have hw := fun d (hd : d ∈ tables_1) => atoms_spec (ws := Jvm.Cond.code x code maxLocals ret :: tables_1) hat d (List.mem_cons_of_mem _ hd)
  obtain ⟨i0, ei0⟩ := is_v ga0
  obtain rfl : w0 = (.int i0) := Option.some.inj ei0
  obtain ⟨i1, ei1⟩ := is_v ga1
  obtain rfl : w1 = (.int i1) := Option.some.inj ei1
  obtain ⟨i2, ei2⟩ := is_v ga2
  obtain rfl : w2 = (.int i2) := Option.some.inj ei2
  obtain ⟨i3, ei3⟩ := is_v gr3
  obtain rfl : w3 = (.int i3) := Option.some.inj ei3
  obtain ⟨n, o, h1, h2, h3, _, L, rfl, ⟨rfl, N⟩, hq⟩ := rm_law l s _ hw tables_1 i0 i1 i2 i3 s.heap s.heap.size (Nat.le_refl _) p e ha hc hk s m _ below hf ((Spec.applies_iff_loose hf).mp happ).1 ⟨rfl, State.Warmed39.refl s, rfl⟩ trivial
  refine ⟨n, _, h1, h2, h3, hpost _ _ _ _ _ _ ⟨Cond.after_iff.mpr rfl, Cond.after_iff.mpr (eq_i res_at (Term.int_eval (1)) rfl), trivial⟩ ⟨hq.1, hq.2.1, (hq.2.2.sift fun y hy => Or.inr (N y hy)).mono (by decide) (by decide)⟩⟩
theorem main_1_1 : Claimed_1_1 := comes_1 fun _ _ _ _ _ _ h hF => ⟨h.1, hF⟩
theorem main_1_2 : Claimed_1_2 := comes_1 fun _ _ _ _ _ _ h hF => ⟨h.2.1, hF⟩
end Jvm.Pilot.@@N@@
namespace Jvm.Pilot.@@N@@
open Jvm Jvm.ClassFile Sem Op Lib Jvm.Free Jvm.Stand Jvm.Pilot.@@N@@.Jvm.D
/-! MADE BY PROGRAM (witnessworld.py) out of the Statement's table words and the real class files: 9 classes; the members and pool entries that the words name. The judged class is class 1, her method 1. -/
namespace start1
open Jvm.ClassFile
def u (s : String) : CpInfo := .utf8 (stringToUtf16 s)
/-- a pool by its gaps: so many unusable entries, then the entry; so many at the end -/
def gap : Nat → List CpInfo → List CpInfo
  | 0, r => r
  | n + 1, r => .unusable :: gap n r
def poolList (es : List (Nat × CpInfo)) (last : Nat) : List CpInfo := es.foldr (fun e r => gap e.1 (e.2 :: r)) (gap last [])
def pool (es : List (Nat × CpInfo)) (last : Nat) : Array CpInfo := ⟨poolList es last⟩
def fileOf (pool : Array CpInfo) (this : Nat) (attrs : Array Attribute := #[]) (ms : Array MethodInfo := #[]) (fl : Nat := 33) (sup : Nat := 0) (ifs : Array Nat := #[]) (fds : Array FieldInfo := #[]) : ClassFile where
  minorVersion := 0
  majorVersion := 65
  constantPool := pool
  accessFlags := fl
  thisClass := this
  superClass := sup
  interfaces := ifs
  fields := fds
  methods := ms
  attributes := attrs
def plain (name : String) (sup : Option ClassId) : Class where
  name := name
  kind := .ordinary
  loader := none
  accessFlags := 33
  super := sup
  interfaces := #[]
  cf := none
  fields := #[]
  methods := #[]
  instanceTypes := #[]
  staticTypes := #[]
  resolved := #[]
  callSites := []
  init := .initialized
  statics := none
  mirror := none

def pool0 : Array CpInfo := pool [(5, u "<init>"), (0, u "()V"), (1, .class_ 10), (1, u "java/lang/Object")] 113

def k0m0 : Method := { name := "<init>", desc := "()V", sig := { parameters := [], returnType := none }, accessFlags := 1, code := none }
/-- java/lang/Object -/
def k0 : Class := { plain "java/lang/Object" none with
  accessFlags := 33
  interfaces := #[]
  cf := some (fileOf pool0 8 #[] #[{ accessFlags := 1, nameIndex := 5, descriptorIndex := 6, attributes := #[] }] 33 0 #[] #[])
  fields := #[]
  methods := #[k0m0]
  instanceTypes := #[]
  staticTypes := #[]
  resolved := Array.replicate 124 none
  statics := none }

def pool1 : Array CpInfo := pool [(2, .class_ 4), (1, u "java/lang/Object"), (0, u "<init>"), (0, u "()V"), (0, .integer 2147483647), (0, .methodref 9 10), (0, .class_ 11), (0, .nameAndType 12 13), (0, u "com/example/stridewise/stridewise/Prefix"), (0, u "covers"), (0, u "(III)Z"), (0, .class_ 15), (0, u "com/example/stridewise/stridewise/PrefixCoversPinLaw"), (2, u "law"), (0, u "(IIII)Z")] 3

def k1m0 : Method := { name := "<init>", desc := "()V", sig := { parameters := [], returnType := none }, accessFlags := 1, code := none }
def k1c1 : Code := { maxStack := 4, maxLocals := 8, code := code, exceptionTable := #[], attributes := #[] }
def k1m1 : Method := { name := "law", desc := "(IIII)Z", sig := { parameters := [.int, .int, .int, .int], returnType := some .boolean }, accessFlags := 9, code := some k1c1 }
/-- com/example/stridewise/stridewise/PrefixCoversPinLaw -/
def k1 : Class := { plain "com/example/stridewise/stridewise/PrefixCoversPinLaw" (some 0) with
  accessFlags := 49
  interfaces := #[]
  cf := some (fileOf pool1 14 #[] #[{ accessFlags := 1, nameIndex := 5, descriptorIndex := 6, attributes := #[] }, { accessFlags := 9, nameIndex := 18, descriptorIndex := 19, attributes := #[] }] 49 2 #[] #[])
  fields := #[]
  methods := #[k1m0, k1m1]
  instanceTypes := #[]
  staticTypes := #[]
  resolved := Array.replicate 23 none
  statics := none }

def pool2 : Array CpInfo := pool [(2, .class_ 4), (1, u "java/lang/Object"), (3, .class_ 10), (1, u "com/example/stridewise/stridewise/Prefix"), (0, u "network"), (0, u "I"), (2, u "length"), (9, .methodref 8 26), (0, .nameAndType 27 28), (0, u "mask"), (0, u "(I)I"), (48, u "covers"), (0, u "(III)Z"), (17, u "MAX_LENGTH"), (2, u "MAX_LENGTH_DIGITS")] 34

def k2c0 : Code := { maxStack := 2, maxLocals := 3, code := prog_9_method_7_code, exceptionTable := #[], attributes := #[] }
def k2m0 : Method := { name := "covers", desc := "(III)Z", sig := { parameters := [.int, .int, .int], returnType := some .boolean }, accessFlags := 8, code := some k2c0 }
def k2c1 : Code := { maxStack := 3, maxLocals := 1, code := prog_9_method_8_code, exceptionTable := #[], attributes := #[] }
def k2m1 : Method := { name := "mask", desc := "(I)I", sig := { parameters := [.int], returnType := some .int }, accessFlags := 8, code := some k2c1 }
/-- com/example/stridewise/stridewise/Prefix -/
def k2 : Class := { plain "com/example/stridewise/stridewise/Prefix" (some 0) with
  accessFlags := 49
  interfaces := #[]
  cf := some (fileOf pool2 8 #[] #[{ accessFlags := 8, nameIndex := 77, descriptorIndex := 78, attributes := #[] }, { accessFlags := 8, nameIndex := 27, descriptorIndex := 28, attributes := #[] }] 49 2 #[] #[{ accessFlags := 24, nameIndex := 96, descriptorIndex := 12, attributes := #[] }, { accessFlags := 26, nameIndex := 99, descriptorIndex := 12, attributes := #[] }, { accessFlags := 18, nameIndex := 11, descriptorIndex := 12, attributes := #[] }, { accessFlags := 18, nameIndex := 15, descriptorIndex := 12, attributes := #[] }])
  fields := #[{ name := "MAX_LENGTH", type := .int, accessFlags := 24, slot := 0, constantValue := 0 }, { name := "MAX_LENGTH_DIGITS", type := .int, accessFlags := 26, slot := 1, constantValue := 0 }, { name := "network", type := .int, accessFlags := 18, slot := 0, constantValue := 0 }, { name := "length", type := .int, accessFlags := 18, slot := 1, constantValue := 0 }]
  methods := #[k2m0, k2m1]
  instanceTypes := #[.int, .int]
  staticTypes := #[.int, .int]
  resolved := Array.replicate 134 none
  statics := none }

def pool3 : Array CpInfo := pool [(1, u "java/lang/Cloneable"), (0, .class_ 1), (0, u "java/lang/Object"), (0, .class_ 3)] 3

/-- java/lang/Cloneable -/
def k3 : Class := { plain "java/lang/Cloneable" (some 0) with
  accessFlags := 1537
  interfaces := #[]
  cf := some (fileOf pool3 2 #[] #[] 1537 4 #[] #[])
  fields := #[]
  methods := #[]
  instanceTypes := #[]
  staticTypes := #[]
  resolved := Array.replicate 8 none
  statics := none }

def pool4 : Array CpInfo := pool [(1, u "java/io/Serializable"), (0, .class_ 1), (0, u "java/lang/Object"), (0, .class_ 3)] 3

/-- java/io/Serializable -/
def k4 : Class := { plain "java/io/Serializable" (some 0) with
  accessFlags := 1537
  interfaces := #[]
  cf := some (fileOf pool4 2 #[] #[] 1537 4 #[] #[])
  fields := #[]
  methods := #[]
  instanceTypes := #[]
  staticTypes := #[]
  resolved := Array.replicate 8 none
  statics := none }

/-- the primitive byte -/
def k5 : Class := { plain "byte" none with kind := .primitive 'B', accessFlags := 0x411 }
/-- [B -/
def k6 : Class := { plain "[B" (some 0) with kind := .array 5 .byte, interfaces := #[3, 4], accessFlags := 1041 }

/-- the primitive int -/
def k7 : Class := { plain "int" none with kind := .primitive 'I', accessFlags := 0x411 }
/-- [I -/
def k8 : Class := { plain "[I" (some 0) with kind := .array 7 .int, interfaces := #[3, 4], accessFlags := 1041 }

def heap : Heap := #[]
def classes : Array Class := #[k0, k1, k2, k3, k4, k5, k6, k7, k8]
def interned : List (Array UInt16 × Addr) := []
def slotsUsed : Nat := 0
def theMethod : MethodId := ⟨1, 1⟩
def args0 : Array Value := #[.int 5, .int 300, .int 7, .int 9]
def aboutOver (below : List Frame) : State where
  vm := { classes := classes, interned := interned.toArray }
  heap := heap
  slotsUsed := slotsUsed
  threads := #[{ frames := .invoking theMethod args0 :: below }]
def below0 : List Frame := [.native { method := ⟨0, 0⟩, args := #[] }]
def about1 : State := aboutOver below0
def p0 : Program := .bare "" "" ""
def e0 : Env := launch0.env 0 0 0
theorem w_frames : about1.frames = Frame.invoking theMethod args0 :: below0 := rfl
set_option maxRecDepth 65536 in
theorem w_args : argsFit about1.vm theMethod args0 = true := by decide +kernel
set_option maxRecDepth 65536 in
theorem w_heap : heapFits about1 = true := by decide +kernel
set_option maxRecDepth 65536 in
theorem w_runnable : about1.curStatus? = some .runnable := by decide +kernel
set_option maxRecDepth 65536 in
theorem w_alone : about1.alone = true := by decide +kernel
set_option maxRecDepth 65536 in
theorem w_named : about1.methodNamed? x = some theMethod := by decide +kernel
set_option maxRecDepth 65536 in
theorem w_hears : about1.hears theMethod below0 = true := by decide +kernel
set_option maxRecDepth 65536 in
theorem w_ripe : about1.ripe theMethod args0 below0 = true := by decide +kernel
theorem w_running : about1.status = .running := rfl
set_option maxRecDepth 65536 in
theorem w_room : about1.hasRoom e0.platform room_1 = true :=
  launch0.hasRoom_least _ room_1 (by decide +kernel) (by decide +kernel) (by decide +kernel) (by decide +kernel) (by decide +kernel) (by decide +kernel)
theorem allAtoms_all (ts : List Jvm.Cond) (a : Array Jvm.Value) (st : Jvm.State) : (allAtoms ts).before a st = ts.all (fun c => c.before a st) := by
  induction ts with
  | nil => rfl
  | cons c t ih =>
    show (Jvm.Cond.and c (allAtoms t)).before a st = _
    rw [Jvm.Cond.before_and, ih, List.all_cons]
def words1 : List Jvm.Cond := Jvm.Cond.code x code maxLocals ret :: tables_1
/-- a 'code' word, met by the world's own term for the bytes: nothing is compared byte by byte -/
theorem code_word {y : MethodName} {bytes : ByteArray} {mx : Nat} {rt : Option FieldType} {a : Array Value} {s : State} {m : MethodId} {meth : Method} {c : Code} (h1 : s.methodNamed? y = some m) (h2 : s.vm.method? m = some meth) (h3 : meth.code = some c) (h4 : c.code = bytes)
    (h5 : (c.maxLocals == mx && c.exceptionTable.isEmpty && decide (c.maxStack ≤ mostOperands) && decide (meth.sig.returnType = rt) && !meth.locks && decide (parseMethodDescriptor y.desc = some meth.sig)) = true) : (Jvm.Cond.code y bytes mx rt).before a s = true := by
  simp only [Bool.and_eq_true, beq_iff_eq, Bool.not_eq_true', decide_eq_true_eq] at h5
  obtain ⟨⟨⟨⟨⟨g1, g2⟩, g3⟩, g4⟩, g5⟩, g6⟩ := h5
  simp [Cond.before, Cond.holds, Cond.value, h1, h2, h3, h4, g1, g2, g3, g4, g5, g6]
def isCode : Jvm.Cond → Bool
  | .code _ _ _ _ => true
  | _ => false
theorem all_split {L : List Jvm.Cond} {P : Jvm.Cond → Bool} (h1 : L.all (fun c => isCode c || P c) = true) (h2 : ∀ c ∈ L.filter isCode, P c = true) : L.all P = true := by
  refine List.all_eq_true.mpr fun c hc => ?_
  have h := List.all_eq_true.mp h1 c hc
  rcases Bool.eq_false_or_eq_true (isCode c) with hi | hi
  · exact h2 c (List.mem_filter.mpr ⟨hc, hi⟩)
  · simpa [hi] using h
set_option maxRecDepth 65536 in
theorem w_c0 : (Jvm.Cond.code x code maxLocals ret).before args0 about1 = true := code_word (m := ⟨1, 1⟩) (meth := k1m1) (c := k1c1) (by decide +kernel) rfl rfl rfl (by decide +kernel)
set_option maxRecDepth 65536 in
theorem w_c1 : (Jvm.Cond.code ({ cls := "com/example/stridewise/stridewise/Prefix", name := "covers", desc := "(III)Z" } : Jvm.MethodName) prog_9_method_7_code (3 : Nat) (Option.some Jvm.ClassFile.FieldType.boolean)).before args0 about1 = true := code_word (m := ⟨2, 0⟩) (meth := k2m0) (c := k2c0) (by decide +kernel) rfl rfl rfl (by decide +kernel)
set_option maxRecDepth 65536 in
theorem w_c2 : (Jvm.Cond.code ({ cls := "com/example/stridewise/stridewise/Prefix", name := "mask", desc := "(I)I" } : Jvm.MethodName) prog_9_method_8_code (1 : Nat) (Option.some Jvm.ClassFile.FieldType.int)).before args0 about1 = true := code_word (m := ⟨2, 1⟩) (meth := k2m1) (c := k2c1) (by decide +kernel) rfl rfl rfl (by decide +kernel)
def codes1 : List Jvm.Cond := [Jvm.Cond.code x code maxLocals ret, Jvm.Cond.code ({ cls := "com/example/stridewise/stridewise/Prefix", name := "covers", desc := "(III)Z" } : Jvm.MethodName) prog_9_method_7_code (3 : Nat) (Option.some Jvm.ClassFile.FieldType.boolean), Jvm.Cond.code ({ cls := "com/example/stridewise/stridewise/Prefix", name := "mask", desc := "(I)I" } : Jvm.MethodName) prog_9_method_8_code (1 : Nat) (Option.some Jvm.ClassFile.FieldType.int)]
set_option maxRecDepth 65536 in
theorem codes_eq : words1.filter isCode = codes1 := rfl
theorem w_codes : ∀ c ∈ words1.filter isCode, c.before args0 about1 = true := by
  rw [codes_eq]
  intro c hc
  simp only [codes1, List.mem_cons, List.not_mem_nil, or_false] at hc
  rcases hc with rfl | rfl | rfl
  · exact w_c0
  · exact w_c1
  · exact w_c2
set_option maxRecDepth 65536 in
theorem w_t1 : words1.all (fun c => isCode c || c.before args0 about1) = true := by decide +kernel
theorem w_tables : (allAtoms (Jvm.Cond.code x code maxLocals ret :: tables_1)).before args0 about1 = true := by
  rw [allAtoms_all]
  show words1.all (fun c => c.before args0 about1) = true
  refine all_split ?_ w_codes
  rw [w_t1]
set_option maxRecDepth 65536 in
theorem w_case : (Jvm.Cond.and given_1 narrow_1).before args0 about1 = true := by decide +kernel
theorem w_applies : (headSpec (Jvm.Cond.code x code maxLocals ret :: tables_1) room_1).applies x e0.platform about1 = true :=
  (Spec.applies_iff w_frames).mpr ⟨w_running, w_runnable, w_alone, w_named, w_hears, w_ripe, w_room, w_tables⟩
theorem atStart : AtStart classFile x code maxLocals ret World_1 tables_1 room_1 Calls_1 rest_1 Pre_1 launch0 p0 e0 about1 theMethod args0 below0 :=
  ⟨lists_1, trivial, launch0.admits_env _ _ _, launch0.least_env, fairChoices_fair.cas, fairChoices_fair.clock, w_frames, w_args, w_heap, w_applies, trivial, trivial, w_case⟩
end start1
theorem witness_1 : WitnessClaimed_1 := ⟨start1.p0, start1.e0, start1.about1, start1.theMethod, start1.args0, start1.below0, start1.atStart⟩
end Jvm.Pilot.@@N@@
