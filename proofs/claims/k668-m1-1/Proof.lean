import JvmDerived
import JvmDerived.Pilot.@@N@@Statement
import JvmDerived.Pilot.@@N@@Code
set_option linter.unusedVariables false
set_option linter.unusedSimpArgs false
namespace Jvm.Pilot.@@N@@
open Jvm Jvm.ClassFile Sem Op Lib Jvm.Free Jvm.Stand Jvm.LawKit Jvm.RoadKit Bundle Jvm.Pilot.@@N@@.Jvm.D
/-! my own small laws: arrays by a function of the place; returns -/
def IA (Z : State) (h : Heap) (a : Addr) (ty : FieldType) (n : Nat) (f : Nat → Int32) : Prop :=
  ∃ c : Cell, Arr Z h a c ty ∧ c.slots.size = n ∧ ∀ j, j < n → c.slots[j]? = some (.int (f j)) ∧ fits ty (.int (f j)) = true
def JA (Z : State) (h : Heap) (a : Addr) (n : Nat) (f : Nat → Int64) : Prop :=
  ∃ c : Cell, Arr Z h a c .long ∧ c.slots.size = n ∧ ∀ j, j < n → c.slots[j]? = some (.long (f j))
def upd (f : Nat → Int32) (i : Nat) (v : Int32) : Nat → Int32 := fun j => if j = i then v else f j
def updJ (f : Nat → Int64) (i : Nat) (v : Int64) : Nat → Int64 := fun j => if j = i then v else f j
def QP (r : Value) (h0 : Heap) (n0 : Nat) (v : Option Value) (h : Heap) (L : List Loc) : Prop := v = some r ∧ Fr n0 L ∧ h = h0
def QL (n0 : Nat) (v : Option Value) (h : Heap) (L : List Loc) : Prop := v = some (.int 1) ∧ Fr n0 L
section Own
variable {p : Program} {l : Launch} {e : Env} {R : Room} {s : State} {m : MethodId} {args : Array Value} {below : List Frame} {meth : Method} {c : Code} {T : State} {locs : List Loc} {cells slots : Nat} {Z : State} {h h' : Heap} {a b : Addr} {ty : FieldType} {n : Nat} {f : Nat → Int32} {fJ : Nat → Int64} {sl : Nat} {v : Value} {wl : List Addr}
theorem IA.lt (F : IA Z h a ty n f) : a < h.size := by obtain ⟨c, A, -⟩ := F; exact A.lt
theorem IA.ext (F : IA Z h a ty n f) (E : Ext h h') : IA Z h' a ty n f := by obtain ⟨c, A, r⟩ := F; exact ⟨c, A.ext E, r⟩
theorem IA.other (F : IA Z h b ty n f) (W : Wr h h' a sl v) (q : b ≠ a) : IA Z h' b ty n f := by obtain ⟨c, A, r⟩ := F; exact ⟨c, A.other W q, r⟩
theorem IA.keep (F : IA Z h a ty n f) (K : Keep h h' wl) (q : a ∉ wl) : IA Z h' a ty n f := by obtain ⟨c, A, r⟩ := F; exact ⟨c, ⟨K.2.1 a c A.1 q, A.2⟩, r⟩
theorem IA.new {k : ClassId} {z : Int32} (A : Arr Z h a (newA k ty z) ty) (hd : defaultValue ty = .int 0) (hf : fits ty (.int 0) = true) (hz : z.toNatClampNeg = n) : IA Z h a ty n (fun _ => 0) := by
  refine ⟨_, A, by rw [sz_new, hz], fun j hj => ⟨?_, hf⟩⟩
  have : j < z.toNatClampNeg := by rw [hz]; exact hj
  simp [newA, hd, this]
theorem IA.set {c : Cell} (A : Arr Z h a c ty) (S : c.slots.size = n) (H : ∀ j, j < n → c.slots[j]? = some (.int (f j)) ∧ fits ty (.int (f j)) = true) {x : Int32} (hv : fits ty (.int x) = true) {i : Nat} (W : Wr h h' a i (.int x)) (hi : i < n) : IA Z h' a ty n (upd f i x) := by
  refine ⟨_, A.same W, by rw [sz_set, S], fun j hj => ?_⟩
  unfold upd
  by_cases q : j = i
  · subst q; simp [Cell.setSlot, S, hi, hv]
  · have := H j hj
    rw [if_neg q]
    refine ⟨?_, this.2⟩
    rw [← this.1]
    show (c.slots.setIfInBounds i (.int x))[j]? = _
    exact Array.getElem?_setIfInBounds_ne (Ne.symm q)
theorem JA.lt (F : JA Z h a n fJ) : a < h.size := by obtain ⟨c, A, -⟩ := F; exact A.lt
theorem JA.ext (F : JA Z h a n fJ) (E : Ext h h') : JA Z h' a n fJ := by obtain ⟨c, A, r⟩ := F; exact ⟨c, A.ext E, r⟩
theorem JA.other (F : JA Z h b n fJ) (W : Wr h h' a sl v) (q : b ≠ a) : JA Z h' b n fJ := by obtain ⟨c, A, r⟩ := F; exact ⟨c, A.other W q, r⟩
theorem JA.keep (F : JA Z h a n fJ) (K : Keep h h' wl) (q : a ∉ wl) : JA Z h' a n fJ := by obtain ⟨c, A, r⟩ := F; exact ⟨c, ⟨K.2.1 a c A.1 q, A.2⟩, r⟩
theorem JA.new {k : ClassId} {z : Int32} (A : Arr Z h a (newA k .long z) .long) (hz : z.toNatClampNeg = n) : JA Z h a n (fun _ => 0) := by
  refine ⟨_, A, by rw [sz_new, hz], fun j hj => ?_⟩
  have : j < z.toNatClampNeg := by rw [hz]; exact hj
  simp [newA, defaultValue, this]
theorem JA.set {c : Cell} (A : Arr Z h a c .long) (S : c.slots.size = n) (H : ∀ j, j < n → c.slots[j]? = some (.long (fJ j))) {x : Int64} {i : Nat} (W : Wr h h' a i (.long x)) (hi : i < n) : JA Z h' a n (updJ fJ i x) := by
  refine ⟨_, A.same W, by rw [sz_set, S], fun j hj => ?_⟩
  unfold updJ
  by_cases q : j = i
  · subst q; simp [Cell.setSlot, S, hi]
  · rw [if_neg q, ← H j hj]
    show (c.slots.setIfInBounds i (.long x))[j]? = _
    exact Array.getElem?_setIfInBounds_ne (Ne.symm q)
theorem stBA (X : Stand p l e R s m args below meth c T locs cells slots) (hx : p.tables.exec = Jvm.exec) (hZ : Z.Warmed39 s.vm) (eT : T.heap = h) (V : IA Z h a .byte n f) {j x : Int32} (hj : ¬ (j < 0 ∨ n ≤ j.toNatClampNeg)) {g : JFrame} (hg : g.method = m) {rest : List Value} (hs : g.stack = .int x :: .int j :: .ref a :: rest) (hd : decode c.code g.pc = .ok (.bastore, 1)) :
    ∃ T' h', Stand p l e R s m args below meth c T' (locs ++ [⟨a, j.toNatClampNeg⟩]) cells slots ∧ T'.heap = h' ∧ (∃ sl v, Wr h h' a sl v) ∧ IA Z h' a .byte n (upd f j.toNatClampNeg (nar .byte x)) ∧ ∀ target, Steps p.tables e below (T'.setTop { g with pc := g.pc + 1, stack := rest }) target → Steps p.tables e below (T.setTop g) target := by
  obtain ⟨cl, A, S, H⟩ := V
  obtain ⟨T', h', X', e', W, st⟩ := stB X hx hZ eT A (j := j) (x := x) (by rw [S]; exact hj) hg hs hd
  exact ⟨T', h', X', e', ⟨_, _, W⟩, IA.set A S H (fits_nar_byte _) W (Nat.lt_of_not_le fun q => hj (Or.inr q)), st⟩
theorem stIA (X : Stand p l e R s m args below meth c T locs cells slots) (hx : p.tables.exec = Jvm.exec) (hZ : Z.Warmed39 s.vm) (eT : T.heap = h) (V : IA Z h a .int n f) {j x : Int32} (hj : ¬ (j < 0 ∨ n ≤ j.toNatClampNeg)) {g : JFrame} (hg : g.method = m) {rest : List Value} (hs : g.stack = .int x :: .int j :: .ref a :: rest) (hd : decode c.code g.pc = .ok (.iastore, 1)) :
    ∃ T' h', Stand p l e R s m args below meth c T' (locs ++ [⟨a, j.toNatClampNeg⟩]) cells slots ∧ T'.heap = h' ∧ (∃ sl v, Wr h h' a sl v) ∧ IA Z h' a .int n (upd f j.toNatClampNeg x) ∧ ∀ target, Steps p.tables e below (T'.setTop { g with pc := g.pc + 1, stack := rest }) target → Steps p.tables e below (T.setTop g) target := by
  obtain ⟨cl, A, S, H⟩ := V
  obtain ⟨T', h', X', e', W, st⟩ := stI X hx hZ eT A (j := j) (x := x) (by rw [S]; exact hj) hg hs hd
  exact ⟨T', h', X', e', ⟨_, _, W⟩, IA.set A S H rfl W (Nat.lt_of_not_le fun q => hj (Or.inr q)), st⟩
theorem stJA (X : Stand p l e R s m args below meth c T locs cells slots) (hx : p.tables.exec = Jvm.exec) (hZ : Z.Warmed39 s.vm) (eT : T.heap = h) (V : JA Z h a n fJ) {j : Int32} {x : Int64} (hj : ¬ (j < 0 ∨ n ≤ j.toNatClampNeg)) {g : JFrame} (hg : g.method = m) {rest : List Value} (hs : g.stack = .long x :: .int j :: .ref a :: rest) (hd : decode c.code g.pc = .ok (.lastore, 1)) :
    ∃ T' h', Stand p l e R s m args below meth c T' (locs ++ [⟨a, j.toNatClampNeg⟩]) cells slots ∧ T'.heap = h' ∧ (∃ sl v, Wr h h' a sl v) ∧ JA Z h' a n (updJ fJ j.toNatClampNeg x) ∧ ∀ target, Steps p.tables e below (T'.setTop { g with pc := g.pc + 1, stack := rest }) target → Steps p.tables e below (T.setTop g) target := by
  obtain ⟨cl, A, S, H⟩ := V
  obtain ⟨T', h', X', e', W, st⟩ := stJ X hx hZ eT A (j := j) (x := x) (by rw [S]; exact hj) hg hs hd
  exact ⟨T', h', X', e', ⟨_, _, W⟩, JA.set A S H W (Nat.lt_of_not_le fun q => hj (Or.inr q)), st⟩
theorem ldBA (X : Stand p l e R s m args below meth c T locs cells slots) (hx : p.tables.exec = Jvm.exec) (hZ : Z.Warmed39 s.vm) (eT : T.heap = h) (V : IA Z h a .byte n f) {j : Int32} (hj : ¬ (j < 0 ∨ n ≤ j.toNatClampNeg)) {g : JFrame} (hg : g.method = m) {rest : List Value} (hs : g.stack = .int j :: .ref a :: rest) (hd : decode c.code g.pc = .ok (.baload, 1)) :
    ∀ target, Steps p.tables e below (T.setTop { g with pc := g.pc + 1, stack := .int (f j.toNatClampNeg) :: rest }) target → Steps p.tables e below (T.setTop g) target := by
  obtain ⟨cl, A, S, H⟩ := V
  exact X.baloadBytes hx (by rw [eT]; exact A.1) (State.isArrayOf_alike hZ.alike A.2.1) A.2.2 (by rw [S]; exact hj) (H _ (Nat.lt_of_not_le fun q => hj (Or.inr q))).1 hg hs hd
theorem ldIA (X : Stand p l e R s m args below meth c T locs cells slots) (hx : p.tables.exec = Jvm.exec) (hZ : Z.Warmed39 s.vm) (eT : T.heap = h) (V : IA Z h a .int n f) {j : Int32} (hj : ¬ (j < 0 ∨ n ≤ j.toNatClampNeg)) {g : JFrame} (hg : g.method = m) {rest : List Value} (hs : g.stack = .int j :: .ref a :: rest) (hd : decode c.code g.pc = .ok (.iaload, 1)) :
    ∀ target, Steps p.tables e below (T.setTop { g with pc := g.pc + 1, stack := .int (f j.toNatClampNeg) :: rest }) target → Steps p.tables e below (T.setTop g) target := by
  obtain ⟨cl, A, S, H⟩ := V
  exact X.iaload hx (by rw [eT]; exact A.1) (State.isArrayOf_alike hZ.alike A.2.1) A.2.2 (by rw [S]; exact hj) (H _ (Nat.lt_of_not_le fun q => hj (Or.inr q))).1 hg hs hd
theorem ldJA (X : Stand p l e R s m args below meth c T locs cells slots) (hx : p.tables.exec = Jvm.exec) (hZ : Z.Warmed39 s.vm) (eT : T.heap = h) (V : JA Z h a n fJ) {j : Int32} (hj : ¬ (j < 0 ∨ n ≤ j.toNatClampNeg)) {g : JFrame} (hg : g.method = m) {rest : List Value} (hs : g.stack = .int j :: .ref a :: rest) (hd : decode c.code g.pc = .ok (.laload, 1)) :
    ∀ target, Steps p.tables e below (T.setTop { g with pc := g.pc + 1, stack := .long (fJ j.toNatClampNeg) :: rest }) target → Steps p.tables e below (T.setTop g) target := by
  obtain ⟨cl, A, S, H⟩ := V
  exact X.laload hx (by rw [eT]; exact A.1) (State.isArrayOf_alike hZ.alike A.2.1) A.2.2 (by rw [S]; exact hj) (H _ (Nat.lt_of_not_le fun q => hj (Or.inr q))) hg hs hd
theorem lnIA (X : Stand p l e R s m args below meth c T locs cells slots) (hx : p.tables.exec = Jvm.exec) (hZ : Z.Warmed39 s.vm) (eT : T.heap = h) (V : IA Z h a ty n f) {z : Int32} (hz : n.toInt32 = z) {g : JFrame} (hg : g.method = m) {rest : List Value} (hs : g.stack = .ref a :: rest) (hd : decode c.code g.pc = .ok (.arraylength, 1)) :
    ∀ target, Steps p.tables e below (T.setTop { g with pc := g.pc + 1, stack := .int z :: rest }) target → Steps p.tables e below (T.setTop g) target := by
  obtain ⟨cl, A, S, H⟩ := V
  intro t k
  refine X.arraylength hx (by rw [eT]; exact A.1) (State.isArrayOf_alike hZ.alike A.2.1) hg hs hd t ?_
  rw [S, hz]; exact k
theorem lnJA (X : Stand p l e R s m args below meth c T locs cells slots) (hx : p.tables.exec = Jvm.exec) (hZ : Z.Warmed39 s.vm) (eT : T.heap = h) (V : JA Z h a n fJ) {z : Int32} (hz : n.toInt32 = z) {g : JFrame} (hg : g.method = m) {rest : List Value} (hs : g.stack = .ref a :: rest) (hd : decode c.code g.pc = .ok (.arraylength, 1)) :
    ∀ target, Steps p.tables e below (T.setTop { g with pc := g.pc + 1, stack := .int z :: rest }) target → Steps p.tables e below (T.setTop g) target := by
  obtain ⟨cl, A, S, H⟩ := V
  intro t k
  refine X.arraylength hx (by rw [eT]; exact A.1) (State.isArrayOf_alike hZ.alike A.2.1) hg hs hd t ?_
  rw [S, hz]; exact k
theorem retI (X : Stand p l e R s m args below meth c T locs cells slots) (hx : p.tables.exec = Jvm.exec) {pc : Nat} {Ls : Array Slot} {z : Int32} {rest : List Value} (hret : meth.sig.returnType = some .int) (hd : decode c.code pc = .ok (.ireturn, 1)) {fs : List Frame}
    (hl : ∀ (f : JFrame) (acts : List Action), f.method = m → f.locked = none → f.entered = [] → (doReturn e (T.setTop f) acts (some (.int z))).1 = T.setFrames fs) : Steps p.tables e below (T.setTop (mkF m pc Ls (.int z :: rest))) (T.setFrames fs) :=
  retOut X hx hret rfl (Or.inl ⟨rfl, Or.inl rfl, z, rfl⟩) hd hl
end Own
/-! numbers -/
theorem own_small {v : Int32} (n : Nat) (h0 : 0 ≤ v.toInt) (h1 : v.toInt < n) : ∃ k : Fin n, v = Int32.ofNat k.val := by
  refine ⟨⟨v.toInt.toNat, by omega⟩, ?_⟩
  apply Int32.toInt_inj.mp
  have := v.toInt_lt
  show v.toInt = (Int32.ofNat v.toInt.toNat).toInt
  rw [Int32.toInt_ofNat_of_lt (by omega)]
  omega
theorem own_mask31 (x : Int32) : 0 ≤ (x &&& (2147483647 : Int32)).toInt ∧ (x &&& (2147483647 : Int32)).toInt = x.toInt % 2147483648 := by
  have h : (x &&& (2147483647 : Int32)).toInt = x.toInt % (2 ^ 31 : Nat) := c_mask x 2147483647 31 (by decide) (by decide)
  omega
theorem own_mod (x : Int32) (d : Int32) (n : Nat) (hd : d.toInt = n) (hn : 0 < n) : ∃ k : Fin n, (x &&& (2147483647 : Int32)) % d = Int32.ofNat k.val := by
  apply own_small
  · rw [Int32.toInt_mod]; exact Int.tmod_nonneg _ (own_mask31 x).1
  · rw [Int32.toInt_mod, hd]; exact Int.tmod_lt_of_pos _ (by omega)
theorem own_ofNat_toInt {n : Nat} (h : n < 2147483648) : (Int32.ofNat n).toInt = n := Int32.toInt_ofNat_of_lt (by omega)
theorem own_ofNat_lt {a b : Nat} (ha : a < 2147483648) (hb : b < 2147483648) : Int32.ofNat a < Int32.ofNat b ↔ a < b := by
  rw [Int32.lt_iff_toInt_lt, own_ofNat_toInt ha, own_ofNat_toInt hb]; omega
theorem own_ofNat_nat {n : Nat} (h : n < 2147483648) : (Int32.ofNat n).toNatClampNeg = n := by
  show (Int32.ofNat n).toInt.toNat = n
  rw [own_ofNat_toInt h]; omega
theorem own_ofNat_in {n len : Nat} (h : n < len) (hl : len ≤ 2147483648) : ¬ (Int32.ofNat n < 0 ∨ len ≤ (Int32.ofNat n).toNatClampNeg) := by
  rw [own_ofNat_nat (by omega), Int32.lt_iff_toInt_lt, own_ofNat_toInt (by omega)]
  have e : (0 : Int32).toInt = 0 := by decide
  rw [e]; omega
theorem own_ofNat_succ (n : Nat) : Int32.ofNat n + 1 = Int32.ofNat (n + 1) := by rw [Int32.ofNat_add]; rfl
theorem own_rng {p0 v : Int32} (h : v = ((p0 &&& (1048575 : Int32)) + (1 : Int32))) : v.toInt = p0.toInt % 1048576 + 1 := by
  have h1 : (p0 &&& (1048575 : Int32)).toInt = p0.toInt % (2 ^ 20 : Nat) := c_mask p0 1048575 20 (by decide) (by decide)
  have h2 := c_iadd (p0 &&& (1048575 : Int32)) 1
  have h3 := rng32 ((p0 &&& (1048575 : Int32)) + 1)
  have e1 : (1 : Int32).toInt = 1 := by decide
  subst h
  rw [e1, h1] at h2
  omega
theorem own_lo {p0 v : Int32} (h : v = ((p0 &&& (1048575 : Int32)) + (1 : Int32))) : ¬ v < (1 : Int32) := by
  have := own_rng h
  have e1 : (1 : Int32).toInt = 1 := by decide
  rw [Int32.lt_iff_toInt_lt, e1]; omega
theorem own_hi {p0 v : Int32} (h : v = ((p0 &&& (1048575 : Int32)) + (1 : Int32))) : ¬ (1048576 : Int32) < v := by
  have := own_rng h
  have e1 : (1048576 : Int32).toInt = 1048576 := by decide
  rw [Int32.lt_iff_toInt_lt, e1]; omega
theorem chk_d0 : decode prog_29_method_2_code 0 = .ok (.iload_n 0, 1) := by decide +kernel
theorem chk_d1 : decode prog_29_method_2_code 1 = .ok (.iconst 1, 1) := by decide +kernel
theorem chk_d2 : decode prog_29_method_2_code 2 = .ok (.if_icmp .lt 9, 3) := by decide +kernel
theorem chk_d5 : decode prog_29_method_2_code 5 = .ok (.iload_n 0, 1) := by decide +kernel
theorem chk_d6 : decode prog_29_method_2_code 6 = .ok (.ldc 23, 2) := by decide +kernel
theorem chk_d8 : decode prog_29_method_2_code 8 = .ok (.if_icmp .le 17, 3) := by decide +kernel
theorem chk_d25 : decode prog_29_method_2_code 25 = .ok (.iload_n 0, 1) := by decide +kernel
theorem chk_d26 : decode prog_29_method_2_code 26 = .ok (.ireturn, 1) := by decide +kernel
theorem chk_pn : plainName "com/example/lithe_wire/lithewire/http/RequestParser" = true := by first | (simp [plainName, overriddenIn]; done) | decide +kernel
theorem chk_ef (m : MethodId) (x0 : Int32) : entryFrame m #[(.int x0)] 1 = mkF m 0 #[.val (.int x0)] [] := by first | (simp [entryFrame, mkF, argsToLocals, Value.category]; done) | rfl
def fChk (p0 : Int32) : Int32 :=
  p0
set_option maxRecDepth 65536 in
set_option maxHeartbeats 40000000 in
theorem rm_chk (l : Launch) (Z : State) (a0 : Array Value) (hw : ∀ d ∈ tables_1, d.before a0 Z = true) (ws : List Jvm.Cond) (p0 : Int32) (h0 : Heap) (n0 : Nat) (Z0 : n0 ≤ h0.size) (hlo : ¬ p0 < (1 : Int32)) (hhi : ¬ (1048576 : Int32) < p0) :
    MetFree l (⟨"com/example/lithe_wire/lithewire/http/RequestParser", "checkLimit", "(I)I"⟩ : MethodName) (head1 (Jvm.Cond.code (⟨"com/example/lithe_wire/lithewire/http/RequestParser", "checkLimit", "(I)I"⟩ : MethodName) prog_29_method_2_code 1 (some .int) :: ws) ({ frames := 0, cells := 0, slots := 0, locals := 0 } : Room)) (fun a U => a = #[(.int p0)] ∧ Z.Warmed39 U.vm ∧ U.heap = h0) (fun _ _ _ _ _ => True) (fun _ U o U' => ∃ v L, o = .returned v ∧ QP (.int (fChk p0)) h0 n0 v U'.heap L ∧ FrameEnd U o U' L ({ frames := 0, cells := 0, slots := 0, locals := 0 } : Room).cells ({ frames := 0, cells := 0, slots := 0, locals := 0 } : Room).slots) := by
  refine MetFree.of_bodySF (plainFor_of_name chk_pn) hisR ?_
  intro p e s m args below meth c s₁ Bd hml0 hP hK
  obtain ⟨rfl, hZ, hh⟩ := hP
  have hx := Bd.exec
  have hby := Bd.bytes
  have hml : c.maxLocals = 1 := hml0
  have hown : s.vm.findClass "com/example/lithe_wire/lithewire/http/RequestParser" = some m.cls := findClass_of_methodNamed Bd.named
  have hnm := (name_of_methodNamed Bd.named Bd.method).1
  have X0 : Stand p l e ({ frames := 0, cells := 0, slots := 0, locals := 0 } : Room) s m #[(.int p0)] below meth c s₁ [] 0 0 := Stand.of_body Bd
  have e0 : s₁.heap = h0 := by rw [← hh, Bd.state]; rfl
  have N0 := Fr.nil n0
  obtain ⟨P0, hP0⟩ : ∃ P0 : State → Prop, P0 = fun t => Steps p.tables e below (s₁.setTop (entryFrame m #[(.int p0)] 1)) t := ⟨_, rfl⟩
  have K0 : ∀ t, Steps p.tables e below (s₁.setTop (mkF m 0 #[.val (.int p0)] [])) t → P0 t := by
    intro t k; rw [hP0]; exact castTop (chk_ef m p0) k
  have K1 : ∀ t, Steps p.tables e below (s₁.setTop (mkF m 26 #[.val (.int p0)] [(.int p0)])) t → P0 t := by
    intro t kt
    refine K0 t ?_
    show Steps p.tables e below (s₁.setTop (mkF m 0 #[.val (.int p0)] [])) t
    refine XS.iloadN X0.here hx rfl (hb hby chk_d0) rfl ?_
    show Steps p.tables e below (s₁.setTop (mkF m 1 #[.val (.int p0)] [(.int p0)])) t
    refine XS.iconst X0.here hx rfl (hb hby chk_d1) ?_
    show Steps p.tables e below (s₁.setTop (mkF m 2 #[.val (.int p0)] [(.int (1 : Int32)), (.int p0)])) t
    refine XS.icmpNo X0.here hx rfl (hb hby chk_d2) rfl (flt hlo).1 ?_
    show Steps p.tables e below (s₁.setTop (mkF m 5 #[.val (.int p0)] [])) t
    refine XS.iloadN X0.here hx rfl (hb hby chk_d5) rfl ?_
    show Steps p.tables e below (s₁.setTop (mkF m 6 #[.val (.int p0)] [(.int p0)])) t
    refine X0.ldcInt hx hown (mvT hZ (hw _ (List.mem_of_getElem? (i := 15) rfl))) (g := (mkF m 6 #[.val (.int p0)] [(.int p0)])) rfl (hb hby chk_d6) _ ?_
    show Steps p.tables e below (s₁.setTop (mkF m 8 #[.val (.int p0)] [(.int (1048576 : Int32)), (.int p0)])) t
    refine XS.icmpYes X0.here hx rfl (pc0 := 8) (pc' := 25) rfl (hb hby chk_d8) rfl (flt hhi).2.2.2 (by decide) (by decide) ?_
    show Steps p.tables e below (s₁.setTop (mkF m 25 #[.val (.int p0)] [])) t
    refine XS.iloadN X0.here hx rfl (hb hby chk_d25) rfl ?_
    exact kt
  obtain ⟨fs, hr, hrun, hended, hW, hsame⟩ := X0.leave (v := some (.int p0)) (fun h => by rw [Bd.returns] at h; cases h)
  refine ⟨_, _, ?_, hrun, hended, _, _, rfl, ?_, ⟨_, rfl⟩, hW, hsame.mono (by decide) (by decide)⟩
  · skip
    have q := K1 _ (retI X0 hx Bd.returns (hb hby chk_d26) hr)
    rw [hP0] at q; exact q
  · show QP (.int (fChk p0)) h0 n0 _ s₁.heap _
    rw [e0]
    exact ⟨rfl, N0, rfl⟩
def QM (Z : State) (r0 : Addr) (p1 p2 : Int32) (h0 : Heap) (n0 : Nat) (v : Option Value) (h : Heap) (L : List Loc) : Prop := v = none ∧ Fr n0 L ∧ Keep h0 h [r0] ∧ Exa Z h r0 "com/example/lithe_wire/lithewire/http/RequestParser" ∧ Fld Z h r0 "com/example/lithe_wire/lithewire/http/RequestParser" "maxRequestLine" "I" (.int (fChk p1)) ∧ Fld Z h r0 "com/example/lithe_wire/lithewire/http/RequestParser" "maxHeaderSection" "I" (.int (fChk p2))
theorem ini_d0 : decode prog_29_method_1_code 0 = .ok (.aload_n 0, 1) := by decide +kernel
theorem ini_d1 : decode prog_29_method_1_code 1 = .ok (.invokespecial 1, 3) := by decide +kernel
theorem ini_d4 : decode prog_29_method_1_code 4 = .ok (.aload_n 0, 1) := by decide +kernel
theorem ini_d5 : decode prog_29_method_1_code 5 = .ok (.iconst (-1), 1) := by decide +kernel
theorem ini_d6 : decode prog_29_method_1_code 6 = .ok (.putfield 7, 3) := by decide +kernel
theorem ini_d9 : decode prog_29_method_1_code 9 = .ok (.aload_n 0, 1) := by decide +kernel
theorem ini_d10 : decode prog_29_method_1_code 10 = .ok (.iload_n 1, 1) := by decide +kernel
theorem ini_d11 : decode prog_29_method_1_code 11 = .ok (.invokestatic 13, 3) := by decide +kernel
theorem ini_d14 : decode prog_29_method_1_code 14 = .ok (.putfield 17, 3) := by decide +kernel
theorem ini_d17 : decode prog_29_method_1_code 17 = .ok (.aload_n 0, 1) := by decide +kernel
theorem ini_d18 : decode prog_29_method_1_code 18 = .ok (.iload_n 2, 1) := by decide +kernel
theorem ini_d19 : decode prog_29_method_1_code 19 = .ok (.invokestatic 13, 3) := by decide +kernel
theorem ini_d22 : decode prog_29_method_1_code 22 = .ok (.putfield 20, 3) := by decide +kernel
theorem ini_d25 : decode prog_29_method_1_code 25 = .ok (.return_, 1) := by decide +kernel
theorem ini_pn : plainName "com/example/lithe_wire/lithewire/http/RequestParser" = true := by first | (simp [plainName, overriddenIn]; done) | decide +kernel
theorem ini_pd0 : parseMethodDescriptor "(I)I" = some ⟨[.int], some .int⟩ := by decide +kernel
theorem ini_ef (m : MethodId) (x0 : Addr) (x1 : Int32) (x2 : Int32) : entryFrame m #[(.ref x0), (.int x1), (.int x2)] 3 = mkF m 0 #[.val (.ref x0), .val (.int x1), .val (.int x2)] [] := by first | (simp [entryFrame, mkF, argsToLocals, Value.category]; done) | rfl
set_option maxRecDepth 65536 in
set_option maxHeartbeats 40000000 in
theorem rm_ini (l : Launch) (Z : State) (a0 : Array Value) (hw : ∀ d ∈ tables_1, d.before a0 Z = true) (ws : List Jvm.Cond) (r0 : Addr) (p1 : Int32) (p2 : Int32) (u0 u1 u2 : Value) (h0 : Heap) (n0 : Nat) (Z0 : n0 ≤ h0.size) (E0 : Exa Z h0 r0 "com/example/lithe_wire/lithewire/http/RequestParser") (F_requestLineEnd : Fld Z h0 r0 "com/example/lithe_wire/lithewire/http/RequestParser" "requestLineEnd" "I" u0) (F_maxRequestLine : Fld Z h0 r0 "com/example/lithe_wire/lithewire/http/RequestParser" "maxRequestLine" "I" u1) (F_maxHeaderSection : Fld Z h0 r0 "com/example/lithe_wire/lithewire/http/RequestParser" "maxHeaderSection" "I" u2) (g0 : n0 ≤ r0) (hl1 : ¬ p1 < (1 : Int32)) (hh1 : ¬ (1048576 : Int32) < p1) (hl2 : ¬ p2 < (1 : Int32)) (hh2 : ¬ (1048576 : Int32) < p2) :
    MetFree l (⟨"com/example/lithe_wire/lithewire/http/RequestParser", "<init>", "(II)V"⟩ : MethodName) (head1 (Jvm.Cond.code (⟨"com/example/lithe_wire/lithewire/http/RequestParser", "<init>", "(II)V"⟩ : MethodName) prog_29_method_1_code 3 none :: ws) ({ frames := 1, cells := 0, slots := 0, locals := 13 } : Room)) (fun a U => a = #[(.ref r0), (.int p1), (.int p2)] ∧ Z.Warmed39 U.vm ∧ U.heap = h0) (fun _ _ _ _ _ => True) (fun _ U o U' => ∃ v L, o = .returned v ∧ QM Z r0 p1 p2 h0 n0 v U'.heap L ∧ FrameEnd U o U' L ({ frames := 1, cells := 0, slots := 0, locals := 13 } : Room).cells ({ frames := 1, cells := 0, slots := 0, locals := 13 } : Room).slots) := by
  refine MetFree.of_bodySF (plainFor_of_name ini_pn) hisR ?_
  intro p e s m args below meth c s₁ Bd hml0 hP hK
  obtain ⟨rfl, hZ, hh⟩ := hP
  have hx := Bd.exec
  have hby := Bd.bytes
  have hml : c.maxLocals = 3 := hml0
  have hown : s.vm.findClass "com/example/lithe_wire/lithewire/http/RequestParser" = some m.cls := findClass_of_methodNamed Bd.named
  have hnm := (name_of_methodNamed Bd.named Bd.method).1
  have X0 : Stand p l e ({ frames := 1, cells := 0, slots := 0, locals := 13 } : Room) s m #[(.ref r0), (.int p1), (.int p2)] below meth c s₁ [] 0 0 := Stand.of_body Bd
  have e0 : s₁.heap = h0 := by rw [← hh, Bd.state]; rfl
  have N0 := Fr.nil n0
  obtain ⟨P0, hP0⟩ : ∃ P0 : State → Prop, P0 = fun t => Steps p.tables e below (s₁.setTop (entryFrame m #[(.ref r0), (.int p1), (.int p2)] 3)) t := ⟨_, rfl⟩
  have K0 : ∀ t, Steps p.tables e below (s₁.setTop (mkF m 0 #[.val (.ref r0), .val (.int p1), .val (.int p2)] [])) t → P0 t := by
    intro t k; rw [hP0]; exact castTop (ini_ef m r0 p1 p2) k
  obtain ⟨T1, X1, e1, st1⟩ := initO X0 hx hZ hown (hw _ (List.mem_of_getElem? (i := 7) rfl)) (hw _ (List.mem_of_getElem? (i := 8) rfl)) (hw _ (List.mem_of_getElem? (i := 9) rfl)) e0 (g := (mkF m 1 #[.val (.ref r0), .val (.int p1), .val (.int p2)] [(.ref r0)])) rfl (by rw [hml]; rfl) rfl (hb hby ini_d1) (by decide) (W := 0) (by show 2 * 0 + _ ≤ _; exact Nat.le_of_eq rfl) (by decide)
  obtain ⟨T2, h2, X2, e2, W2, st2⟩ := putF X1 hx hZ hown (host := "") (Or.inl (hw _ (List.mem_of_getElem? (i := 10) rfl))) Via.refl e1 F_requestLineEnd E0 (Or.inl (hw _ (List.mem_of_getElem? (i := 11) rfl))) (hw _ (List.mem_of_getElem? (i := 2) rfl)) (ty := .int) (by decide) rfl rfl (g := (mkF m 6 #[.val (.ref r0), .val (.int p1), .val (.int p2)] [(.int (-1 : Int32)), (.ref r0)])) rfl rfl (hb hby ini_d6)
  have Z2 : n0 ≤ h2.size := Nat.le_trans Z0 (Keep.of_wr W2).1
  have N2 := Fr.snoc X2 N0 g0
  have F3 : Exa Z h2 r0 "com/example/lithe_wire/lithewire/http/RequestParser" := Exa.wr W2 E0
  have F4 : Fld Z h2 r0 "com/example/lithe_wire/lithewire/http/RequestParser" "maxRequestLine" "I" u1 := Fld.other W2 F_maxRequestLine (Or.inr (slot_ne (Or.inr (hw _ (List.mem_of_getElem? (i := 17) rfl))) (Or.inl (hw _ (List.mem_of_getElem? (i := 11) rfl))) (by decide) (t := .int) (t' := .int) (by decide) (by decide)))
  have F5 : Fld Z h2 r0 "com/example/lithe_wire/lithewire/http/RequestParser" "maxHeaderSection" "I" u2 := Fld.other W2 F_maxHeaderSection (Or.inr (slot_ne (Or.inr (hw _ (List.mem_of_getElem? (i := 19) rfl))) (Or.inl (hw _ (List.mem_of_getElem? (i := 11) rfl))) (by decide) (t := .int) (t' := .int) (by decide) (by decide)))
  have Kp2 : Keep h0 h2 [r0] := (Keep.refl h0 [r0]).wr W2 (Or.inl (List.mem_of_getElem? (i := 0) rfl))
  have F6 : Fld Z h2 r0 "com/example/lithe_wire/lithewire/http/RequestParser" "requestLineEnd" "I" (.int (-1 : Int32)) := Fld.same W2 F_requestLineEnd
  obtain ⟨_, _, ⟨T7, L7, k7, n7⟩, -, X7, ⟨Lc7, hQ7, l7, y7, z7⟩, st7⟩ := Jvm.LawKit.callS X2 hx (y := (⟨"com/example/lithe_wire/lithewire/http/RequestParser", "checkLimit", "(I)I"⟩ : MethodName)) hown (mvT hZ (hw _ (List.mem_of_getElem? (i := 12) rfl))) (mvT hZ (hw _ (List.mem_of_getElem? (i := 13) rfl))) (mvT hZ (hw _ (List.mem_of_getElem? (i := 3) rfl))) (mvT hZ (hw _ (List.mem_of_getElem? (i := 14) rfl))) (by decide) (backOf (W := 1) (rm_chk l Z a0 hw [] p1 h2 n0 Z2 hl1 hh1) hZ (hw _ (List.mem_of_getElem? (i := 14) rfl)) (hw _ (List.mem_of_getElem? (i := 3) rfl)) (by decide) (by decide)) (g := (mkF m 11 #[.val (.ref r0), .val (.int p1), .val (.int p2)] [(.int p1), (.ref r0)])) rfl (by rw [hml]; rfl) (argsL := [(.int p1)]) (rest := [(.ref r0)]) (lenOf ini_pd0 rfl) rfl (by show 2 * 0 + _ ≤ _; exact Nat.le_of_eq rfl) (hb hby ini_d11) (fun _ _ => ⟨rfl, e2, (by decide : 0 + 0 ≤ _), (by decide : 0 + 0 ≤ _)⟩)
  dsimp only [Pt.U, Pt.locs, Pt.cells, Pt.slots] at X7 l7 y7 z7 st7 hQ7
  subst l7 y7 z7
  obtain ⟨rfl, N7q, e7⟩ := hQ7
  have N7 := Fr.app N2 N7q
  obtain ⟨T8, h8, X8, e8, W8, st8⟩ := putF X7 hx hZ hown (host := "") (Or.inl (hw _ (List.mem_of_getElem? (i := 16) rfl))) Via.refl e7 F4 F3 (Or.inr ⟨(hw _ (List.mem_of_getElem? (i := 17) rfl)), rfl, hnm⟩) (hw _ (List.mem_of_getElem? (i := 2) rfl)) (ty := .int) (by decide) rfl rfl (g := (mkF m 14 #[.val (.ref r0), .val (.int p1), .val (.int p2)] [(.int (fChk p1)), (.ref r0)])) rfl rfl (hb hby ini_d14)
  have Z8 : n0 ≤ h8.size := Nat.le_trans Z2 (Keep.of_wr W8).1
  have N8 := Fr.snoc X8 N7 g0
  have F9 : Exa Z h8 r0 "com/example/lithe_wire/lithewire/http/RequestParser" := Exa.wr W8 F3
  have F10 : Fld Z h8 r0 "com/example/lithe_wire/lithewire/http/RequestParser" "requestLineEnd" "I" (.int (-1 : Int32)) := Fld.other W8 F6 (Or.inr (slot_ne (Or.inl (hw _ (List.mem_of_getElem? (i := 11) rfl))) (Or.inr (hw _ (List.mem_of_getElem? (i := 17) rfl))) (by decide) (t := .int) (t' := .int) (by decide) (by decide)))
  have F11 : Fld Z h8 r0 "com/example/lithe_wire/lithewire/http/RequestParser" "maxHeaderSection" "I" u2 := Fld.other W8 F5 (Or.inr (slot_ne (Or.inr (hw _ (List.mem_of_getElem? (i := 19) rfl))) (Or.inr (hw _ (List.mem_of_getElem? (i := 17) rfl))) (by decide) (t := .int) (t' := .int) (by decide) (by decide)))
  have Kp8 : Keep h0 h8 [r0] := Kp2.wr W8 (Or.inl (List.mem_of_getElem? (i := 0) rfl))
  have F12 : Fld Z h8 r0 "com/example/lithe_wire/lithewire/http/RequestParser" "maxRequestLine" "I" (.int (fChk p1)) := Fld.same W8 F4
  obtain ⟨_, _, ⟨T13, L13, k13, n13⟩, -, X13, ⟨Lc13, hQ13, l13, y13, z13⟩, st13⟩ := Jvm.LawKit.callS X8 hx (y := (⟨"com/example/lithe_wire/lithewire/http/RequestParser", "checkLimit", "(I)I"⟩ : MethodName)) hown (mvT hZ (hw _ (List.mem_of_getElem? (i := 12) rfl))) (mvT hZ (hw _ (List.mem_of_getElem? (i := 13) rfl))) (mvT hZ (hw _ (List.mem_of_getElem? (i := 3) rfl))) (mvT hZ (hw _ (List.mem_of_getElem? (i := 14) rfl))) (by decide) (backOf (W := 1) (rm_chk l Z a0 hw [] p2 h8 n0 Z8 hl2 hh2) hZ (hw _ (List.mem_of_getElem? (i := 14) rfl)) (hw _ (List.mem_of_getElem? (i := 3) rfl)) (by decide) (by decide)) (g := (mkF m 19 #[.val (.ref r0), .val (.int p1), .val (.int p2)] [(.int p2), (.ref r0)])) rfl (by rw [hml]; rfl) (argsL := [(.int p2)]) (rest := [(.ref r0)]) (lenOf ini_pd0 rfl) rfl (by show 2 * 0 + _ ≤ _; exact Nat.le_of_eq rfl) (hb hby ini_d19) (fun _ _ => ⟨rfl, e8, (by decide : 0 + 0 ≤ _), (by decide : 0 + 0 ≤ _)⟩)
  dsimp only [Pt.U, Pt.locs, Pt.cells, Pt.slots] at X13 l13 y13 z13 st13 hQ13
  subst l13 y13 z13
  obtain ⟨rfl, N13q, e13⟩ := hQ13
  have N13 := Fr.app N8 N13q
  obtain ⟨T14, h14, X14, e14, W14, st14⟩ := putF X13 hx hZ hown (host := "") (Or.inl (hw _ (List.mem_of_getElem? (i := 18) rfl))) Via.refl e13 F11 F9 (Or.inr ⟨(hw _ (List.mem_of_getElem? (i := 19) rfl)), rfl, hnm⟩) (hw _ (List.mem_of_getElem? (i := 2) rfl)) (ty := .int) (by decide) rfl rfl (g := (mkF m 22 #[.val (.ref r0), .val (.int p1), .val (.int p2)] [(.int (fChk p2)), (.ref r0)])) rfl rfl (hb hby ini_d22)
  have Z14 : n0 ≤ h14.size := Nat.le_trans Z8 (Keep.of_wr W14).1
  have N14 := Fr.snoc X14 N13 g0
  have F15 : Exa Z h14 r0 "com/example/lithe_wire/lithewire/http/RequestParser" := Exa.wr W14 F9
  have F16 : Fld Z h14 r0 "com/example/lithe_wire/lithewire/http/RequestParser" "requestLineEnd" "I" (.int (-1 : Int32)) := Fld.other W14 F10 (Or.inr (slot_ne (Or.inl (hw _ (List.mem_of_getElem? (i := 11) rfl))) (Or.inr (hw _ (List.mem_of_getElem? (i := 19) rfl))) (by decide) (t := .int) (t' := .int) (by decide) (by decide)))
  have F17 : Fld Z h14 r0 "com/example/lithe_wire/lithewire/http/RequestParser" "maxRequestLine" "I" (.int (fChk p1)) := Fld.other W14 F12 (Or.inr (slot_ne (Or.inr (hw _ (List.mem_of_getElem? (i := 17) rfl))) (Or.inr (hw _ (List.mem_of_getElem? (i := 19) rfl))) (by decide) (t := .int) (t' := .int) (by decide) (by decide)))
  have Kp14 : Keep h0 h14 [r0] := Kp8.wr W14 (Or.inl (List.mem_of_getElem? (i := 0) rfl))
  have F18 : Fld Z h14 r0 "com/example/lithe_wire/lithewire/http/RequestParser" "maxHeaderSection" "I" (.int (fChk p2)) := Fld.same W14 F11
  have K19 : ∀ t, Steps p.tables e below (T14.setTop (mkF m 25 #[.val (.ref r0), .val (.int p1), .val (.int p2)] [])) t → P0 t := by
    intro t kt
    refine K0 t ?_
    show Steps p.tables e below (s₁.setTop (mkF m 0 #[.val (.ref r0), .val (.int p1), .val (.int p2)] [])) t
    refine XS.aloadN X0.here hx rfl (hb hby ini_d0) rfl rfl ?_
    show Steps p.tables e below (s₁.setTop (mkF m 1 #[.val (.ref r0), .val (.int p1), .val (.int p2)] [(.ref r0)])) t
    refine st1 _ ?_
    show Steps p.tables e below (T1.setTop (mkF m 4 #[.val (.ref r0), .val (.int p1), .val (.int p2)] [])) t
    refine XS.aloadN X1.here hx rfl (hb hby ini_d4) rfl rfl ?_
    show Steps p.tables e below (T1.setTop (mkF m 5 #[.val (.ref r0), .val (.int p1), .val (.int p2)] [(.ref r0)])) t
    refine XS.iconst X1.here hx rfl (hb hby ini_d5) ?_
    show Steps p.tables e below (T1.setTop (mkF m 6 #[.val (.ref r0), .val (.int p1), .val (.int p2)] [(.int (-1 : Int32)), (.ref r0)])) t
    refine st2 _ ?_
    show Steps p.tables e below (T2.setTop (mkF m 9 #[.val (.ref r0), .val (.int p1), .val (.int p2)] [])) t
    refine XS.aloadN X2.here hx rfl (hb hby ini_d9) rfl rfl ?_
    show Steps p.tables e below (T2.setTop (mkF m 10 #[.val (.ref r0), .val (.int p1), .val (.int p2)] [(.ref r0)])) t
    refine XS.iloadN X2.here hx rfl (hb hby ini_d10) rfl ?_
    show Steps p.tables e below (T2.setTop (mkF m 11 #[.val (.ref r0), .val (.int p1), .val (.int p2)] [(.int p1), (.ref r0)])) t
    refine st7 _ ?_
    show Steps p.tables e below (T7.setTop (mkF m 14 #[.val (.ref r0), .val (.int p1), .val (.int p2)] [(.int (fChk p1)), (.ref r0)])) t
    refine st8 _ ?_
    show Steps p.tables e below (T8.setTop (mkF m 17 #[.val (.ref r0), .val (.int p1), .val (.int p2)] [])) t
    refine XS.aloadN X8.here hx rfl (hb hby ini_d17) rfl rfl ?_
    show Steps p.tables e below (T8.setTop (mkF m 18 #[.val (.ref r0), .val (.int p1), .val (.int p2)] [(.ref r0)])) t
    refine XS.iloadN X8.here hx rfl (hb hby ini_d18) rfl ?_
    show Steps p.tables e below (T8.setTop (mkF m 19 #[.val (.ref r0), .val (.int p1), .val (.int p2)] [(.int p2), (.ref r0)])) t
    refine st13 _ ?_
    show Steps p.tables e below (T13.setTop (mkF m 22 #[.val (.ref r0), .val (.int p1), .val (.int p2)] [(.int (fChk p2)), (.ref r0)])) t
    refine st14 _ ?_
    exact kt
  obtain ⟨fs, hr, hrun, hended, hW, hsame⟩ := X14.leave (v := none) (fun _ => rfl)
  refine ⟨_, _, ?_, hrun, hended, _, _, rfl, ?_, ⟨_, rfl⟩, hW, hsame.mono (by decide) (by decide)⟩
  · skip
    have q := K19 _ (X14.returnOut hx Bd.returns (hb hby ini_d25) hr)
    rw [hP0] at q; exact q
  · show QM Z r0 p1 p2 h0 n0 _ T14.heap _
    rw [e14]
    exact ⟨rfl, N14, Kp14, F15, F17, F18⟩
theorem buf_d0 : decode prog_29_method_4_code 0 = .ok (.aload_n 0, 1) := by decide +kernel
theorem buf_d1 : decode prog_29_method_4_code 1 = .ok (.getfield 17, 3) := by decide +kernel
theorem buf_d4 : decode prog_29_method_4_code 4 = .ok (.iconst 2, 1) := by decide +kernel
theorem buf_d5 : decode prog_29_method_4_code 5 = .ok (.iadd, 1) := by decide +kernel
theorem buf_d6 : decode prog_29_method_4_code 6 = .ok (.aload_n 0, 1) := by decide +kernel
theorem buf_d7 : decode prog_29_method_4_code 7 = .ok (.getfield 20, 3) := by decide +kernel
theorem buf_d10 : decode prog_29_method_4_code 10 = .ok (.iadd, 1) := by decide +kernel
theorem buf_d11 : decode prog_29_method_4_code 11 = .ok (.iconst 2, 1) := by decide +kernel
theorem buf_d12 : decode prog_29_method_4_code 12 = .ok (.iadd, 1) := by decide +kernel
theorem buf_d13 : decode prog_29_method_4_code 13 = .ok (.ireturn, 1) := by decide +kernel
theorem buf_pn : plainName "com/example/lithe_wire/lithewire/http/RequestParser" = true := by first | (simp [plainName, overriddenIn]; done) | decide +kernel
theorem buf_ef (m : MethodId) (x0 : Addr) : entryFrame m #[(.ref x0)] 1 = mkF m 0 #[.val (.ref x0)] [] := by first | (simp [entryFrame, mkF, argsToLocals, Value.category]; done) | rfl
def fBuf (w1 : Int32) (w2 : Int32) : Int32 :=
  (((w1 + (2 : Int32)) + w2) + (2 : Int32))
set_option maxRecDepth 65536 in
set_option maxHeartbeats 40000000 in
theorem rm_buf (l : Launch) (Z : State) (a0 : Array Value) (hw : ∀ d ∈ tables_1, d.before a0 Z = true) (ws : List Jvm.Cond) (r0 : Addr) (w1 w2 : Int32) (h0 : Heap) (n0 : Nat) (Z0 : n0 ≤ h0.size) (F_maxRequestLine : Fld Z h0 r0 "com/example/lithe_wire/lithewire/http/RequestParser" "maxRequestLine" "I" (.int w1)) (F_maxHeaderSection : Fld Z h0 r0 "com/example/lithe_wire/lithewire/http/RequestParser" "maxHeaderSection" "I" (.int w2)) :
    MetFree l (⟨"com/example/lithe_wire/lithewire/http/RequestParser", "bufferSize", "()I"⟩ : MethodName) (head1 (Jvm.Cond.code (⟨"com/example/lithe_wire/lithewire/http/RequestParser", "bufferSize", "()I"⟩ : MethodName) prog_29_method_4_code 1 (some .int) :: ws) ({ frames := 0, cells := 0, slots := 0, locals := 0 } : Room)) (fun a U => a = #[(.ref r0)] ∧ Z.Warmed39 U.vm ∧ U.heap = h0) (fun _ _ _ _ _ => True) (fun _ U o U' => ∃ v L, o = .returned v ∧ QP (.int (fBuf w1 w2)) h0 n0 v U'.heap L ∧ FrameEnd U o U' L ({ frames := 0, cells := 0, slots := 0, locals := 0 } : Room).cells ({ frames := 0, cells := 0, slots := 0, locals := 0 } : Room).slots) := by
  refine MetFree.of_bodySF (plainFor_of_name buf_pn) hisR ?_
  intro p e s m args below meth c s₁ Bd hml0 hP hK
  obtain ⟨rfl, hZ, hh⟩ := hP
  have hx := Bd.exec
  have hby := Bd.bytes
  have hml : c.maxLocals = 1 := hml0
  have hown : s.vm.findClass "com/example/lithe_wire/lithewire/http/RequestParser" = some m.cls := findClass_of_methodNamed Bd.named
  have hnm := (name_of_methodNamed Bd.named Bd.method).1
  have X0 : Stand p l e ({ frames := 0, cells := 0, slots := 0, locals := 0 } : Room) s m #[(.ref r0)] below meth c s₁ [] 0 0 := Stand.of_body Bd
  have e0 : s₁.heap = h0 := by rw [← hh, Bd.state]; rfl
  have N0 := Fr.nil n0
  obtain ⟨P0, hP0⟩ : ∃ P0 : State → Prop, P0 = fun t => Steps p.tables e below (s₁.setTop (entryFrame m #[(.ref r0)] 1)) t := ⟨_, rfl⟩
  have K0 : ∀ t, Steps p.tables e below (s₁.setTop (mkF m 0 #[.val (.ref r0)] [])) t → P0 t := by
    intro t k; rw [hP0]; exact castTop (buf_ef m r0) k
  obtain ⟨T1, X1, e1, st1⟩ := getF X0 hx hZ hown (host := "") (Or.inl (hw _ (List.mem_of_getElem? (i := 16) rfl))) Via.refl e0 F_maxRequestLine (g := (mkF m 1 #[.val (.ref r0)] [(.ref r0)])) rfl rfl (hb hby buf_d1)
  obtain ⟨T2, X2, e2, st2⟩ := getF X1 hx hZ hown (host := "") (Or.inl (hw _ (List.mem_of_getElem? (i := 18) rfl))) Via.refl e1 F_maxHeaderSection (g := (mkF m 7 #[.val (.ref r0)] [(.ref r0), (.int (w1 + (2 : Int32)))])) rfl rfl (hb hby buf_d7)
  have K3 : ∀ t, Steps p.tables e below (T2.setTop (mkF m 13 #[.val (.ref r0)] [(.int (((w1 + (2 : Int32)) + w2) + (2 : Int32)))])) t → P0 t := by
    intro t kt
    refine K0 t ?_
    show Steps p.tables e below (s₁.setTop (mkF m 0 #[.val (.ref r0)] [])) t
    refine XS.aloadN X0.here hx rfl (hb hby buf_d0) rfl rfl ?_
    show Steps p.tables e below (s₁.setTop (mkF m 1 #[.val (.ref r0)] [(.ref r0)])) t
    refine st1 _ ?_
    show Steps p.tables e below (T1.setTop (mkF m 4 #[.val (.ref r0)] [(.int w1)])) t
    refine XS.iconst X1.here hx rfl (hb hby buf_d4) ?_
    show Steps p.tables e below (T1.setTop (mkF m 5 #[.val (.ref r0)] [(.int (2 : Int32)), (.int w1)])) t
    refine XS.iadd X1.here hx rfl (hb hby buf_d5) rfl ?_
    show Steps p.tables e below (T1.setTop (mkF m 6 #[.val (.ref r0)] [(.int (w1 + (2 : Int32)))])) t
    refine XS.aloadN X1.here hx rfl (hb hby buf_d6) rfl rfl ?_
    show Steps p.tables e below (T1.setTop (mkF m 7 #[.val (.ref r0)] [(.ref r0), (.int (w1 + (2 : Int32)))])) t
    refine st2 _ ?_
    show Steps p.tables e below (T2.setTop (mkF m 10 #[.val (.ref r0)] [(.int w2), (.int (w1 + (2 : Int32)))])) t
    refine XS.iadd X2.here hx rfl (hb hby buf_d10) rfl ?_
    show Steps p.tables e below (T2.setTop (mkF m 11 #[.val (.ref r0)] [(.int ((w1 + (2 : Int32)) + w2))])) t
    refine XS.iconst X2.here hx rfl (hb hby buf_d11) ?_
    show Steps p.tables e below (T2.setTop (mkF m 12 #[.val (.ref r0)] [(.int (2 : Int32)), (.int ((w1 + (2 : Int32)) + w2))])) t
    refine XS.iadd X2.here hx rfl (hb hby buf_d12) rfl ?_
    exact kt
  obtain ⟨fs, hr, hrun, hended, hW, hsame⟩ := X2.leave (v := some (.int (((w1 + (2 : Int32)) + w2) + (2 : Int32)))) (fun h => by rw [Bd.returns] at h; cases h)
  refine ⟨_, _, ?_, hrun, hended, _, _, rfl, ?_, ⟨_, rfl⟩, hW, hsame.mono (by decide) (by decide)⟩
  · skip
    have q := K3 _ (retI X2 hx Bd.returns (hb hby buf_d13) hr)
    rw [hP0] at q; exact q
  · show QP (.int (fBuf w1 w2)) h0 n0 _ T2.heap _
    rw [e2]
    exact ⟨rfl, N0, rfl⟩
theorem mhs_d0 : decode prog_29_method_3_code 0 = .ok (.aload_n 0, 1) := by decide +kernel
theorem mhs_d1 : decode prog_29_method_3_code 1 = .ok (.getfield 20, 3) := by decide +kernel
theorem mhs_d4 : decode prog_29_method_3_code 4 = .ok (.ireturn, 1) := by decide +kernel
theorem mhs_pn : plainName "com/example/lithe_wire/lithewire/http/RequestParser" = true := by first | (simp [plainName, overriddenIn]; done) | decide +kernel
theorem mhs_ef (m : MethodId) (x0 : Addr) : entryFrame m #[(.ref x0)] 1 = mkF m 0 #[.val (.ref x0)] [] := by first | (simp [entryFrame, mkF, argsToLocals, Value.category]; done) | rfl
def fMhs (w2 : Int32) : Int32 :=
  w2
set_option maxRecDepth 65536 in
set_option maxHeartbeats 40000000 in
theorem rm_mhs (l : Launch) (Z : State) (a0 : Array Value) (hw : ∀ d ∈ tables_1, d.before a0 Z = true) (ws : List Jvm.Cond) (r0 : Addr) (w2 : Int32) (h0 : Heap) (n0 : Nat) (Z0 : n0 ≤ h0.size) (F_m : Fld Z h0 r0 "com/example/lithe_wire/lithewire/http/RequestParser" "maxHeaderSection" "I" (.int w2)) :
    MetFree l (⟨"com/example/lithe_wire/lithewire/http/RequestParser", "maxHeaderSection", "()I"⟩ : MethodName) (head1 (Jvm.Cond.code (⟨"com/example/lithe_wire/lithewire/http/RequestParser", "maxHeaderSection", "()I"⟩ : MethodName) prog_29_method_3_code 1 (some .int) :: ws) ({ frames := 0, cells := 0, slots := 0, locals := 0 } : Room)) (fun a U => a = #[(.ref r0)] ∧ Z.Warmed39 U.vm ∧ U.heap = h0) (fun _ _ _ _ _ => True) (fun _ U o U' => ∃ v L, o = .returned v ∧ QP (.int (fMhs w2)) h0 n0 v U'.heap L ∧ FrameEnd U o U' L ({ frames := 0, cells := 0, slots := 0, locals := 0 } : Room).cells ({ frames := 0, cells := 0, slots := 0, locals := 0 } : Room).slots) := by
  refine MetFree.of_bodySF (plainFor_of_name mhs_pn) hisR ?_
  intro p e s m args below meth c s₁ Bd hml0 hP hK
  obtain ⟨rfl, hZ, hh⟩ := hP
  have hx := Bd.exec
  have hby := Bd.bytes
  have hml : c.maxLocals = 1 := hml0
  have hown : s.vm.findClass "com/example/lithe_wire/lithewire/http/RequestParser" = some m.cls := findClass_of_methodNamed Bd.named
  have hnm := (name_of_methodNamed Bd.named Bd.method).1
  have X0 : Stand p l e ({ frames := 0, cells := 0, slots := 0, locals := 0 } : Room) s m #[(.ref r0)] below meth c s₁ [] 0 0 := Stand.of_body Bd
  have e0 : s₁.heap = h0 := by rw [← hh, Bd.state]; rfl
  have N0 := Fr.nil n0
  obtain ⟨P0, hP0⟩ : ∃ P0 : State → Prop, P0 = fun t => Steps p.tables e below (s₁.setTop (entryFrame m #[(.ref r0)] 1)) t := ⟨_, rfl⟩
  have K0 : ∀ t, Steps p.tables e below (s₁.setTop (mkF m 0 #[.val (.ref r0)] [])) t → P0 t := by
    intro t k; rw [hP0]; exact castTop (mhs_ef m r0) k
  obtain ⟨T1, X1, e1, st1⟩ := getF X0 hx hZ hown (host := "") (Or.inl (hw _ (List.mem_of_getElem? (i := 18) rfl))) Via.refl e0 F_m (g := (mkF m 1 #[.val (.ref r0)] [(.ref r0)])) rfl rfl (hb hby mhs_d1)
  have K2 : ∀ t, Steps p.tables e below (T1.setTop (mkF m 4 #[.val (.ref r0)] [(.int w2)])) t → P0 t := by
    intro t kt
    refine K0 t ?_
    show Steps p.tables e below (s₁.setTop (mkF m 0 #[.val (.ref r0)] [])) t
    refine XS.aloadN X0.here hx rfl (hb hby mhs_d0) rfl rfl ?_
    show Steps p.tables e below (s₁.setTop (mkF m 1 #[.val (.ref r0)] [(.ref r0)])) t
    refine st1 _ ?_
    exact kt
  obtain ⟨fs, hr, hrun, hended, hW, hsame⟩ := X1.leave (v := some (.int w2)) (fun h => by rw [Bd.returns] at h; cases h)
  refine ⟨_, _, ?_, hrun, hended, _, _, rfl, ?_, ⟨_, rfl⟩, hW, hsame.mono (by decide) (by decide)⟩
  · skip
    have q := K2 _ (retI X1 hx Bd.returns (hb hby mhs_d4) hr)
    rw [hP0] at q; exact q
  · show QP (.int (fMhs w2)) h0 n0 _ T1.heap _
    rw [e1]
    exact ⟨rfl, N0, rfl⟩
theorem own_plain (p0 : Int32) (p1 : Int32) (v6 : Int32) (v13 : Int32) (v41 : Int32) (v56 : Int64) (j103_s0_4 : Int32)
    (hv6 : v6 = ((p0 &&& (1048575 : Int32)) + (1 : Int32)))
    (hv13 : v13 = ((p1 &&& (1048575 : Int32)) + (1 : Int32)))
    (hv41 : v41 = (fBuf (fChk v6) (fChk v13)))
    (hv56 : v56 = ((((v6.toInt64) + (2 : Int64)) + (v13.toInt64)) + (2 : Int64)))
    (hj103_s0_4 : j103_s0_4 = (if (v41.toInt64) = v56 then (if v6 < v41 then (if v13 < v41 then (if (fBuf (fChk v13) (fChk v6)) = v41 then (if (fMhs (fChk v13)) = v13 then (1 : Int32) else (0 : Int32)) else (0 : Int32)) else (0 : Int32)) else (0 : Int32)) else (0 : Int32))) :
    j103_s0_4 = 1 := by
  have a := own_rng hv6; have b := own_rng hv13
  simp only [fBuf, fMhs, fChk] at hv41 hj103_s0_4
  have e2 : (2 : Int32).toInt = 2 := by decide
  have k1 := c_iadd v6 2; have k2 := c_iadd (v6 + 2) v13; have k3 := c_iadd (v6 + 2 + v13) 2
  have r1 := rng32 (v6 + 2); have r2 := rng32 (v6 + 2 + v13); have r3 := rng32 (v6 + 2 + v13 + 2)
  have s41 : v41.toInt = v6.toInt + v13.toInt + 4 := by rw [hv41]; rw [e2] at k1 k3; omega
  have m1 := c_iadd v13 2; have m2 := c_iadd (v13 + 2) v6; have m3 := c_iadd (v13 + 2 + v6) 2
  have t1 := rng32 (v13 + 2); have t2 := rng32 (v13 + 2 + v6); have t3 := rng32 (v13 + 2 + v6 + 2)
  have s41' : (v13 + 2 + v6 + 2).toInt = v6.toInt + v13.toInt + 4 := by rw [e2] at m1 m3; omega
  have eq1 : v13 + 2 + v6 + 2 = v41 := Int32.toInt_inj.mp (by rw [s41', s41])
  have l1 : v41.toInt64 = v56 := by
    apply Int64.toInt_inj.mp
    have e2' : (2 : Int64).toInt = 2 := by decide
    have g1 := c_ladd v6.toInt64 2; have g2 := c_ladd (v6.toInt64 + 2) v13.toInt64; have g3 := c_ladd (v6.toInt64 + 2 + v13.toInt64) 2
    have u1 := rng64 (v6.toInt64 + 2); have u2 := rng64 (v6.toInt64 + 2 + v13.toInt64); have u3 := rng64 (v6.toInt64 + 2 + v13.toInt64 + 2)
    rw [hv56, Int32.toInt_toInt64, s41]
    rw [Int32.toInt_toInt64] at g1 g2
    rw [e2'] at g1 g3
    omega
  have l2 : v6 < v41 := by rw [Int32.lt_iff_toInt_lt]; omega
  have l3 : v13 < v41 := by rw [Int32.lt_iff_toInt_lt]; omega
  rw [hj103_s0_4, if_pos l1, if_pos l2, if_pos l3, if_pos eq1]; simp
theorem law_pn : plainName "com/example/lithe_wire/lithewire/http/RequestParserBufferSizePinLaw" = true := by first | (simp [plainName, overriddenIn]; done) | decide +kernel
theorem law_pd0 : parseMethodDescriptor "(II)V" = some ⟨[.int, .int], none⟩ := by decide +kernel
theorem law_pd1 : parseMethodDescriptor "()I" = some ⟨[], some .int⟩ := by decide +kernel
theorem law_ef (m : MethodId) (x0 : Int32) (x1 : Int32) : entryFrame m #[(.int x0), (.int x1)] maxLocals = mkF m 0 #[.val (.int x0), .val (.int x1), .unset, .unset, .unset, .unset, .unset, .unset, .unset] [] := by first | (simp [entryFrame, mkF, argsToLocals, Value.category, maxLocals]; done) | rfl
set_option maxRecDepth 65536 in
set_option maxHeartbeats 40000000 in
theorem rm_law (l : Launch) (Z : State) (a0 : Array Value) (hw : ∀ d ∈ tables_1, d.before a0 Z = true) (ws : List Jvm.Cond) (p0 : Int32) (p1 : Int32) (h0 : Heap) (n0 : Nat) (Z0 : n0 ≤ h0.size) :
    MetFree l x (head1 (Jvm.Cond.code x code maxLocals ret :: ws) room_1) (fun a U => a = #[(.int p0), (.int p1)] ∧ Z.Warmed39 U.vm ∧ U.heap = h0) (fun _ _ _ _ _ => True) (fun _ U o U' => ∃ v L, o = .returned v ∧ QL n0 v U'.heap L ∧ FrameEnd U o U' L room_1.cells room_1.slots) := by
  refine MetFree.of_bodySF (plainFor_of_name law_pn) hisR ?_
  intro p e s m args below meth c s₁ Bd hml0 hP hK
  obtain ⟨rfl, hZ, hh⟩ := hP
  have hx := Bd.exec
  have hby := Bd.bytes
  have hml : c.maxLocals = 9 := hml0
  have hown : s.vm.findClass "com/example/lithe_wire/lithewire/http/RequestParserBufferSizePinLaw" = some m.cls := findClass_of_methodNamed Bd.named
  have hnm := (name_of_methodNamed Bd.named Bd.method).1
  have X0 : Stand p l e room_1 s m #[(.int p0), (.int p1)] below meth c s₁ [] 0 0 := Stand.of_body Bd
  have e0 : s₁.heap = h0 := by rw [← hh, Bd.state]; rfl
  have N0 := Fr.nil n0
  obtain ⟨P0, hP0⟩ : ∃ P0 : State → Prop, P0 = fun t => Steps p.tables e below (s₁.setTop (entryFrame m #[(.int p0), (.int p1)] maxLocals)) t := ⟨_, rfl⟩
  have K0 : ∀ t, Steps p.tables e below (s₁.setTop (mkF m 0 #[.val (.int p0), .val (.int p1), .unset, .unset, .unset, .unset, .unset, .unset, .unset] [])) t → P0 t := by
    intro t k; rw [hP0]; exact castTop (law_ef m p0 p1) k
  have K1 : ∀ t, Steps p.tables e below (s₁.setTop (mkF m 7 #[.val (.int p0), .val (.int p1), .val (.int ((p0 &&& (1048575 : Int32)) + (1 : Int32))), .unset, .unset, .unset, .unset, .unset, .unset] [])) t → P0 t := by
    intro t kt
    refine K0 t ?_
    show Steps p.tables e below (s₁.setTop (mkF m 0 #[.val (.int p0), .val (.int p1), .unset, .unset, .unset, .unset, .unset, .unset, .unset] [])) t
    refine XS.iloadN X0.here hx rfl (hb hby at_0) rfl ?_
    show Steps p.tables e below (s₁.setTop (mkF m 1 #[.val (.int p0), .val (.int p1), .unset, .unset, .unset, .unset, .unset, .unset, .unset] [(.int p0)])) t
    refine X0.ldcInt hx hown (mvT hZ (hw _ (List.mem_of_getElem? (i := 0) rfl))) (g := (mkF m 1 #[.val (.int p0), .val (.int p1), .unset, .unset, .unset, .unset, .unset, .unset, .unset] [(.int p0)])) rfl (hb hby at_1) _ ?_
    show Steps p.tables e below (s₁.setTop (mkF m 3 #[.val (.int p0), .val (.int p1), .unset, .unset, .unset, .unset, .unset, .unset, .unset] [(.int (1048575 : Int32)), (.int p0)])) t
    refine XS.iand X0.here hx rfl (hb hby at_3) rfl ?_
    show Steps p.tables e below (s₁.setTop (mkF m 4 #[.val (.int p0), .val (.int p1), .unset, .unset, .unset, .unset, .unset, .unset, .unset] [(.int (p0 &&& (1048575 : Int32)))])) t
    refine XS.iconst X0.here hx rfl (hb hby at_4) ?_
    show Steps p.tables e below (s₁.setTop (mkF m 5 #[.val (.int p0), .val (.int p1), .unset, .unset, .unset, .unset, .unset, .unset, .unset] [(.int (1 : Int32)), (.int (p0 &&& (1048575 : Int32)))])) t
    refine XS.iadd X0.here hx rfl (hb hby at_5) rfl ?_
    show Steps p.tables e below (s₁.setTop (mkF m 6 #[.val (.int p0), .val (.int p1), .unset, .unset, .unset, .unset, .unset, .unset, .unset] [(.int ((p0 &&& (1048575 : Int32)) + (1 : Int32)))])) t
    refine XS.istoreN X0.here hx rfl (hb hby at_6) rfl (l' := #[.val (.int p0), .val (.int p1), .val (.int ((p0 &&& (1048575 : Int32)) + (1 : Int32))), .unset, .unset, .unset, .unset, .unset, .unset]) rfl ?_
    exact kt
  obtain ⟨v6, hv6, K2⟩ : ∃ v6 : Int32, v6 = ((p0 &&& (1048575 : Int32)) + (1 : Int32)) ∧ ∀ t, Steps p.tables e below (s₁.setTop (mkF m 7 #[.val (.int p0), .val (.int p1), .val (.int v6), .unset, .unset, .unset, .unset, .unset, .unset] [])) t → P0 t := ⟨_, rfl, K1⟩
  have K3 : ∀ t, Steps p.tables e below (s₁.setTop (mkF m 14 #[.val (.int p0), .val (.int p1), .val (.int v6), .val (.int ((p1 &&& (1048575 : Int32)) + (1 : Int32))), .unset, .unset, .unset, .unset, .unset] [])) t → P0 t := by
    intro t kt
    refine K2 t ?_
    show Steps p.tables e below (s₁.setTop (mkF m 7 #[.val (.int p0), .val (.int p1), .val (.int v6), .unset, .unset, .unset, .unset, .unset, .unset] [])) t
    refine XS.iloadN X0.here hx rfl (hb hby at_7) rfl ?_
    show Steps p.tables e below (s₁.setTop (mkF m 8 #[.val (.int p0), .val (.int p1), .val (.int v6), .unset, .unset, .unset, .unset, .unset, .unset] [(.int p1)])) t
    refine X0.ldcInt hx hown (mvT hZ (hw _ (List.mem_of_getElem? (i := 0) rfl))) (g := (mkF m 8 #[.val (.int p0), .val (.int p1), .val (.int v6), .unset, .unset, .unset, .unset, .unset, .unset] [(.int p1)])) rfl (hb hby at_8) _ ?_
    show Steps p.tables e below (s₁.setTop (mkF m 10 #[.val (.int p0), .val (.int p1), .val (.int v6), .unset, .unset, .unset, .unset, .unset, .unset] [(.int (1048575 : Int32)), (.int p1)])) t
    refine XS.iand X0.here hx rfl (hb hby at_10) rfl ?_
    show Steps p.tables e below (s₁.setTop (mkF m 11 #[.val (.int p0), .val (.int p1), .val (.int v6), .unset, .unset, .unset, .unset, .unset, .unset] [(.int (p1 &&& (1048575 : Int32)))])) t
    refine XS.iconst X0.here hx rfl (hb hby at_11) ?_
    show Steps p.tables e below (s₁.setTop (mkF m 12 #[.val (.int p0), .val (.int p1), .val (.int v6), .unset, .unset, .unset, .unset, .unset, .unset] [(.int (1 : Int32)), (.int (p1 &&& (1048575 : Int32)))])) t
    refine XS.iadd X0.here hx rfl (hb hby at_12) rfl ?_
    show Steps p.tables e below (s₁.setTop (mkF m 13 #[.val (.int p0), .val (.int p1), .val (.int v6), .unset, .unset, .unset, .unset, .unset, .unset] [(.int ((p1 &&& (1048575 : Int32)) + (1 : Int32)))])) t
    refine XS.istoreN X0.here hx rfl (hb hby at_13) rfl (l' := #[.val (.int p0), .val (.int p1), .val (.int v6), .val (.int ((p1 &&& (1048575 : Int32)) + (1 : Int32))), .unset, .unset, .unset, .unset, .unset]) rfl ?_
    exact kt
  obtain ⟨v13, hv13, K4⟩ : ∃ v13 : Int32, v13 = ((p1 &&& (1048575 : Int32)) + (1 : Int32)) ∧ ∀ t, Steps p.tables e below (s₁.setTop (mkF m 14 #[.val (.int p0), .val (.int p1), .val (.int v6), .val (.int v13), .unset, .unset, .unset, .unset, .unset] [])) t → P0 t := ⟨_, rfl, K3⟩
  obtain ⟨T5, h5, X5, e5, E5, A5, D5, -, st5⟩ := newO X0 hx hZ hown (hw _ (List.mem_of_getElem? (i := 1) rfl)) (hw _ (List.mem_of_getElem? (i := 2) rfl)) (hw _ (List.mem_of_getElem? (i := 3) rfl)) e0 (g := (mkF m 14 #[.val (.int p0), .val (.int p1), .val (.int v6), .val (.int v13), .unset, .unset, .unset, .unset, .unset] [])) rfl (hb hby at_14) (by decide) (by decide)
  obtain ⟨b14, g5⟩ : ∃ z, z = h0.size := ⟨_, rfl⟩
  have g_b14 : n0 ≤ b14 := Nat.le_trans Z0 (Nat.le_of_eq g5.symm)
  rw [← g5] at A5 D5 st5
  have Z5 : n0 ≤ h5.size := Nat.le_trans Z0 E5.1
  have F6 : Fld Z h5 b14 "com/example/lithe_wire/lithewire/http/RequestParser" "requestLineEnd" "I" (.int (0 : Int32)) := D5 (Or.inl (hw _ (List.mem_of_getElem? (i := 11) rfl))) (ty := .int) (by decide)
  have F7 : Fld Z h5 b14 "com/example/lithe_wire/lithewire/http/RequestParser" "maxRequestLine" "I" (.int (0 : Int32)) := D5 (Or.inr (hw _ (List.mem_of_getElem? (i := 17) rfl))) (ty := .int) (by decide)
  have F8 : Fld Z h5 b14 "com/example/lithe_wire/lithewire/http/RequestParser" "maxHeaderSection" "I" (.int (0 : Int32)) := D5 (Or.inr (hw _ (List.mem_of_getElem? (i := 19) rfl))) (ty := .int) (by decide)
  obtain ⟨_, _, ⟨T9, L9, k9, n9⟩, -, X9, ⟨Lc9, hQ9, l9, y9, z9⟩, st9⟩ := X5.specialBack hx (y := (⟨"com/example/lithe_wire/lithewire/http/RequestParser", "<init>", "(II)V"⟩ : MethodName)) rfl hown (mvT hZ (hw _ (List.mem_of_getElem? (i := 4) rfl))) (mvT hZ (hw _ (List.mem_of_getElem? (i := 5) rfl))) (mvT hZ (hw _ (List.mem_of_getElem? (i := 6) rfl))) (by decide) (backOf (W := 1) (rm_ini l Z a0 hw [] b14 v6 v13 _ _ _ h5 n0 Z5 A5 F6 F7 F8 g_b14 (own_lo hv6) (own_hi hv6) (own_lo hv13) (own_hi hv13)) hZ (hw _ (List.mem_of_getElem? (i := 6) rfl)) (hw _ (List.mem_of_getElem? (i := 3) rfl)) (by decide) (by decide)) (g := (mkF m 20 #[.val (.int p0), .val (.int p1), .val (.int v6), .val (.int v13), .unset, .unset, .unset, .unset, .unset] [(.int v13), (.int v6), (.ref b14), (.ref b14)])) rfl (by rw [hml]; rfl) (Steps.refl _) (a := b14) (argsL := [(.int v6), (.int v13)]) (rest := [(.ref b14)]) (lenOf law_pd0 rfl) rfl (by show 2 * 0 + _ ≤ _; exact Nat.le_of_eq rfl) (hb hby at_20) (fun _ _ => ⟨rfl, e5, (by decide : 1 + 0 ≤ _), (by decide : 5 + 0 ≤ _)⟩)
  dsimp only [Pt.U, Pt.locs, Pt.cells, Pt.slots] at X9 l9 y9 z9 st9 hQ9
  subst l9 y9 z9
  obtain ⟨h9, e9⟩ : ∃ z, T9.heap = z := ⟨_, rfl⟩
  rw [e9] at hQ9
  obtain ⟨rfl, N9q, Kq9, F10, F11, F12⟩ := hQ9
  have N9 := Fr.app N0 N9q
  have Z9 : n0 ≤ h9.size := Nat.le_trans Z5 Kq9.1
  obtain ⟨T13, h13, X13, e13, E13, A13, D13, -, st13⟩ := newO X9 hx hZ hown (hw _ (List.mem_of_getElem? (i := 1) rfl)) (hw _ (List.mem_of_getElem? (i := 2) rfl)) (hw _ (List.mem_of_getElem? (i := 3) rfl)) e9 (g := (mkF m 25 #[.val (.int p0), .val (.int p1), .val (.int v6), .val (.int v13), .val (.ref b14), .unset, .unset, .unset, .unset] [])) rfl (hb hby at_25) (by decide) (by decide)
  obtain ⟨b25, g13⟩ : ∃ z, z = h9.size := ⟨_, rfl⟩
  have g_b25 : n0 ≤ b25 := Nat.le_trans Z9 (Nat.le_of_eq g13.symm)
  have ne_b14_b25 : b14 ≠ b25 := Nat.ne_of_lt (Nat.lt_of_lt_of_le F10.lt (Nat.le_of_eq g13.symm))
  rw [← g13] at A13 D13 st13
  have Z13 : n0 ≤ h13.size := Nat.le_trans Z9 E13.1
  have F14 : Exa Z h13 b14 "com/example/lithe_wire/lithewire/http/RequestParser" := Exa.ext E13 F10
  have F15 : Fld Z h13 b14 "com/example/lithe_wire/lithewire/http/RequestParser" "maxRequestLine" "I" (.int (fChk v6)) := Fld.ext E13 F11
  have F16 : Fld Z h13 b14 "com/example/lithe_wire/lithewire/http/RequestParser" "maxHeaderSection" "I" (.int (fChk v13)) := Fld.ext E13 F12
  have F17 : Fld Z h13 b25 "com/example/lithe_wire/lithewire/http/RequestParser" "requestLineEnd" "I" (.int (0 : Int32)) := D13 (Or.inl (hw _ (List.mem_of_getElem? (i := 11) rfl))) (ty := .int) (by decide)
  have F18 : Fld Z h13 b25 "com/example/lithe_wire/lithewire/http/RequestParser" "maxRequestLine" "I" (.int (0 : Int32)) := D13 (Or.inr (hw _ (List.mem_of_getElem? (i := 17) rfl))) (ty := .int) (by decide)
  have F19 : Fld Z h13 b25 "com/example/lithe_wire/lithewire/http/RequestParser" "maxHeaderSection" "I" (.int (0 : Int32)) := D13 (Or.inr (hw _ (List.mem_of_getElem? (i := 19) rfl))) (ty := .int) (by decide)
  obtain ⟨_, _, ⟨T20, L20, k20, n20⟩, -, X20, ⟨Lc20, hQ20, l20, y20, z20⟩, st20⟩ := X13.specialBack hx (y := (⟨"com/example/lithe_wire/lithewire/http/RequestParser", "<init>", "(II)V"⟩ : MethodName)) rfl hown (mvT hZ (hw _ (List.mem_of_getElem? (i := 4) rfl))) (mvT hZ (hw _ (List.mem_of_getElem? (i := 5) rfl))) (mvT hZ (hw _ (List.mem_of_getElem? (i := 6) rfl))) (by decide) (backOf (W := 1) (rm_ini l Z a0 hw [] b25 v13 v6 _ _ _ h13 n0 Z13 A13 F17 F18 F19 g_b25 (own_lo hv13) (own_hi hv13) (own_lo hv6) (own_hi hv6)) hZ (hw _ (List.mem_of_getElem? (i := 6) rfl)) (hw _ (List.mem_of_getElem? (i := 3) rfl)) (by decide) (by decide)) (g := (mkF m 31 #[.val (.int p0), .val (.int p1), .val (.int v6), .val (.int v13), .val (.ref b14), .unset, .unset, .unset, .unset] [(.int v6), (.int v13), (.ref b25), (.ref b25)])) rfl (by rw [hml]; rfl) (Steps.refl _) (a := b25) (argsL := [(.int v13), (.int v6)]) (rest := [(.ref b25)]) (lenOf law_pd0 rfl) rfl (by show 2 * 0 + _ ≤ _; exact Nat.le_of_eq rfl) (hb hby at_31) (fun _ _ => ⟨rfl, e13, (by decide : 2 + 0 ≤ _), (by decide : 10 + 0 ≤ _)⟩)
  dsimp only [Pt.U, Pt.locs, Pt.cells, Pt.slots] at X20 l20 y20 z20 st20 hQ20
  subst l20 y20 z20
  obtain ⟨h20, e20⟩ : ∃ z, T20.heap = z := ⟨_, rfl⟩
  rw [e20] at hQ20
  obtain ⟨rfl, N20q, Kq20, F21, F22, F23⟩ := hQ20
  have N20 := Fr.app N9 N20q
  have Z20 : n0 ≤ h20.size := Nat.le_trans Z13 Kq20.1
  have F24 : Exa Z h20 b14 "com/example/lithe_wire/lithewire/http/RequestParser" := F14.keep Kq20
  have F25 : Fld Z h20 b14 "com/example/lithe_wire/lithewire/http/RequestParser" "maxRequestLine" "I" (.int (fChk v6)) := F15.keep Kq20 (ninS ne_b14_b25 nin0)
  have F26 : Fld Z h20 b14 "com/example/lithe_wire/lithewire/http/RequestParser" "maxHeaderSection" "I" (.int (fChk v13)) := F16.keep Kq20 (ninS ne_b14_b25 nin0)
  obtain ⟨cq27, kq27, q27a, q27b, q27c⟩ := isOf hZ e20 F24
  obtain ⟨_, _, ⟨T27, L27, k27, n27⟩, -, X27, ⟨Lc27, hQ27, l27, y27, z27⟩, st27⟩ := X20.virtualBack hx (y := (⟨"com/example/lithe_wire/lithewire/http/RequestParser", "bufferSize", "()I"⟩ : MethodName)) (z := (⟨"com/example/lithe_wire/lithewire/http/RequestParser", "bufferSize", "()I"⟩ : MethodName)) hown (mvT hZ (hw _ (List.mem_of_getElem? (i := 20) rfl))) (mvT hZ (hw _ (List.mem_of_getElem? (i := 21) rfl))) (notFace_of_selects (args := #[]) (mvT hZ (hw _ (List.mem_of_getElem? (i := 23) rfl)))) (mvT hZ (hw _ (List.mem_of_getElem? (i := 23) rfl))) (mvT hZ (hw _ (List.mem_of_getElem? (i := 22) rfl))) (by decide) (backOf (W := 0) (rm_buf l Z a0 hw [] b14 (fChk v6) (fChk v13) h20 n0 Z20 F25 F26) hZ (hw _ (List.mem_of_getElem? (i := 24) rfl)) (hw _ (List.mem_of_getElem? (i := 3) rfl)) (by decide) (by decide)) q27a q27c (g := (mkF m 38 #[.val (.int p0), .val (.int p1), .val (.int v6), .val (.int v13), .val (.ref b14), .val (.ref b25), .unset, .unset, .unset] [(.ref b14)])) rfl (by rw [hml]; rfl) (Steps.refl _) (argsL := []) (rest := []) (lenOf law_pd1 rfl) rfl (by show 2 * 0 + _ ≤ _; exact Nat.le_of_eq rfl) (hb hby at_38) (fun _ _ => ⟨rfl, e20, (by decide : 2 + 0 ≤ _), (by decide : 10 + 0 ≤ _)⟩)
  dsimp only [Pt.U, Pt.locs, Pt.cells, Pt.slots] at X27 l27 y27 z27 st27 hQ27
  subst l27 y27 z27
  obtain ⟨rfl, N27q, e27⟩ := hQ27
  have N27 := Fr.app N20 N27q
  have K28 : ∀ t, Steps p.tables e below (T27.setTop (mkF m 43 #[.val (.int p0), .val (.int p1), .val (.int v6), .val (.int v13), .val (.ref b14), .val (.ref b25), .val (.int (fBuf (fChk v6) (fChk v13))), .unset, .unset] [])) t → P0 t := by
    intro t kt
    refine K4 t ?_
    show Steps p.tables e below (s₁.setTop (mkF m 14 #[.val (.int p0), .val (.int p1), .val (.int v6), .val (.int v13), .unset, .unset, .unset, .unset, .unset] [])) t
    refine st5 _ ?_
    show Steps p.tables e below (T5.setTop (mkF m 17 #[.val (.int p0), .val (.int p1), .val (.int v6), .val (.int v13), .unset, .unset, .unset, .unset, .unset] [(.ref b14)])) t
    refine XS.dup X5.here hx rfl (hb hby at_17) rfl rfl ?_
    show Steps p.tables e below (T5.setTop (mkF m 18 #[.val (.int p0), .val (.int p1), .val (.int v6), .val (.int v13), .unset, .unset, .unset, .unset, .unset] [(.ref b14), (.ref b14)])) t
    refine XS.iloadN X5.here hx rfl (hb hby at_18) rfl ?_
    show Steps p.tables e below (T5.setTop (mkF m 19 #[.val (.int p0), .val (.int p1), .val (.int v6), .val (.int v13), .unset, .unset, .unset, .unset, .unset] [(.int v6), (.ref b14), (.ref b14)])) t
    refine XS.iloadN X5.here hx rfl (hb hby at_19) rfl ?_
    show Steps p.tables e below (T5.setTop (mkF m 20 #[.val (.int p0), .val (.int p1), .val (.int v6), .val (.int v13), .unset, .unset, .unset, .unset, .unset] [(.int v13), (.int v6), (.ref b14), (.ref b14)])) t
    refine st9.trans ?_
    show Steps p.tables e below (T9.setTop (mkF m 23 #[.val (.int p0), .val (.int p1), .val (.int v6), .val (.int v13), .unset, .unset, .unset, .unset, .unset] [(.ref b14)])) t
    refine XS.astore X9.here hx rfl (hb hby at_23) rfl rfl (l' := #[.val (.int p0), .val (.int p1), .val (.int v6), .val (.int v13), .val (.ref b14), .unset, .unset, .unset, .unset]) rfl ?_
    show Steps p.tables e below (T9.setTop (mkF m 25 #[.val (.int p0), .val (.int p1), .val (.int v6), .val (.int v13), .val (.ref b14), .unset, .unset, .unset, .unset] [])) t
    refine st13 _ ?_
    show Steps p.tables e below (T13.setTop (mkF m 28 #[.val (.int p0), .val (.int p1), .val (.int v6), .val (.int v13), .val (.ref b14), .unset, .unset, .unset, .unset] [(.ref b25)])) t
    refine XS.dup X13.here hx rfl (hb hby at_28) rfl rfl ?_
    show Steps p.tables e below (T13.setTop (mkF m 29 #[.val (.int p0), .val (.int p1), .val (.int v6), .val (.int v13), .val (.ref b14), .unset, .unset, .unset, .unset] [(.ref b25), (.ref b25)])) t
    refine XS.iloadN X13.here hx rfl (hb hby at_29) rfl ?_
    show Steps p.tables e below (T13.setTop (mkF m 30 #[.val (.int p0), .val (.int p1), .val (.int v6), .val (.int v13), .val (.ref b14), .unset, .unset, .unset, .unset] [(.int v13), (.ref b25), (.ref b25)])) t
    refine XS.iloadN X13.here hx rfl (hb hby at_30) rfl ?_
    show Steps p.tables e below (T13.setTop (mkF m 31 #[.val (.int p0), .val (.int p1), .val (.int v6), .val (.int v13), .val (.ref b14), .unset, .unset, .unset, .unset] [(.int v6), (.int v13), (.ref b25), (.ref b25)])) t
    refine st20.trans ?_
    show Steps p.tables e below (T20.setTop (mkF m 34 #[.val (.int p0), .val (.int p1), .val (.int v6), .val (.int v13), .val (.ref b14), .unset, .unset, .unset, .unset] [(.ref b25)])) t
    refine XS.astore X20.here hx rfl (hb hby at_34) rfl rfl (l' := #[.val (.int p0), .val (.int p1), .val (.int v6), .val (.int v13), .val (.ref b14), .val (.ref b25), .unset, .unset, .unset]) rfl ?_
    show Steps p.tables e below (T20.setTop (mkF m 36 #[.val (.int p0), .val (.int p1), .val (.int v6), .val (.int v13), .val (.ref b14), .val (.ref b25), .unset, .unset, .unset] [])) t
    refine XS.aload X20.here hx rfl (hb hby at_36) rfl rfl ?_
    show Steps p.tables e below (T20.setTop (mkF m 38 #[.val (.int p0), .val (.int p1), .val (.int v6), .val (.int v13), .val (.ref b14), .val (.ref b25), .unset, .unset, .unset] [(.ref b14)])) t
    refine st27.trans ?_
    show Steps p.tables e below (T27.setTop (mkF m 41 #[.val (.int p0), .val (.int p1), .val (.int v6), .val (.int v13), .val (.ref b14), .val (.ref b25), .unset, .unset, .unset] [(.int (fBuf (fChk v6) (fChk v13)))])) t
    refine XS.istore X27.here hx rfl (hb hby at_41) rfl (l' := #[.val (.int p0), .val (.int p1), .val (.int v6), .val (.int v13), .val (.ref b14), .val (.ref b25), .val (.int (fBuf (fChk v6) (fChk v13))), .unset, .unset]) rfl ?_
    exact kt
  obtain ⟨v41, hv41, K29⟩ : ∃ v41 : Int32, v41 = (fBuf (fChk v6) (fChk v13)) ∧ ∀ t, Steps p.tables e below (T27.setTop (mkF m 43 #[.val (.int p0), .val (.int p1), .val (.int v6), .val (.int v13), .val (.ref b14), .val (.ref b25), .val (.int v41), .unset, .unset] [])) t → P0 t := ⟨_, rfl, K28⟩
  have K30 : ∀ t, Steps p.tables e below (T27.setTop (mkF m 58 #[.val (.int p0), .val (.int p1), .val (.int v6), .val (.int v13), .val (.ref b14), .val (.ref b25), .val (.int v41), .val (.long ((((v6.toInt64) + (2 : Int64)) + (v13.toInt64)) + (2 : Int64))), .second] [])) t → P0 t := by
    intro t kt
    refine K29 t ?_
    show Steps p.tables e below (T27.setTop (mkF m 43 #[.val (.int p0), .val (.int p1), .val (.int v6), .val (.int v13), .val (.ref b14), .val (.ref b25), .val (.int v41), .unset, .unset] [])) t
    refine XS.iloadN X27.here hx rfl (hb hby at_43) rfl ?_
    show Steps p.tables e below (T27.setTop (mkF m 44 #[.val (.int p0), .val (.int p1), .val (.int v6), .val (.int v13), .val (.ref b14), .val (.ref b25), .val (.int v41), .unset, .unset] [(.int v6)])) t
    refine XS.i2l X27.here hx rfl (hb hby at_44) rfl ?_
    show Steps p.tables e below (T27.setTop (mkF m 45 #[.val (.int p0), .val (.int p1), .val (.int v6), .val (.int v13), .val (.ref b14), .val (.ref b25), .val (.int v41), .unset, .unset] [(.long (v6.toInt64))])) t
    refine X27.ldc2Long hx hown (mvT hZ (hw _ (List.mem_of_getElem? (i := 25) rfl))) (g := (mkF m 45 #[.val (.int p0), .val (.int p1), .val (.int v6), .val (.int v13), .val (.ref b14), .val (.ref b25), .val (.int v41), .unset, .unset] [(.long (v6.toInt64))])) rfl (hb hby at_45) _ ?_
    show Steps p.tables e below (T27.setTop (mkF m 48 #[.val (.int p0), .val (.int p1), .val (.int v6), .val (.int v13), .val (.ref b14), .val (.ref b25), .val (.int v41), .unset, .unset] [(.long (2 : Int64)), (.long (v6.toInt64))])) t
    refine XS.ladd X27.here hx rfl (hb hby at_48) rfl ?_
    show Steps p.tables e below (T27.setTop (mkF m 49 #[.val (.int p0), .val (.int p1), .val (.int v6), .val (.int v13), .val (.ref b14), .val (.ref b25), .val (.int v41), .unset, .unset] [(.long ((v6.toInt64) + (2 : Int64)))])) t
    refine XS.iloadN X27.here hx rfl (hb hby at_49) rfl ?_
    show Steps p.tables e below (T27.setTop (mkF m 50 #[.val (.int p0), .val (.int p1), .val (.int v6), .val (.int v13), .val (.ref b14), .val (.ref b25), .val (.int v41), .unset, .unset] [(.int v13), (.long ((v6.toInt64) + (2 : Int64)))])) t
    refine XS.i2l X27.here hx rfl (hb hby at_50) rfl ?_
    show Steps p.tables e below (T27.setTop (mkF m 51 #[.val (.int p0), .val (.int p1), .val (.int v6), .val (.int v13), .val (.ref b14), .val (.ref b25), .val (.int v41), .unset, .unset] [(.long (v13.toInt64)), (.long ((v6.toInt64) + (2 : Int64)))])) t
    refine XS.ladd X27.here hx rfl (hb hby at_51) rfl ?_
    show Steps p.tables e below (T27.setTop (mkF m 52 #[.val (.int p0), .val (.int p1), .val (.int v6), .val (.int v13), .val (.ref b14), .val (.ref b25), .val (.int v41), .unset, .unset] [(.long (((v6.toInt64) + (2 : Int64)) + (v13.toInt64)))])) t
    refine X27.ldc2Long hx hown (mvT hZ (hw _ (List.mem_of_getElem? (i := 25) rfl))) (g := (mkF m 52 #[.val (.int p0), .val (.int p1), .val (.int v6), .val (.int v13), .val (.ref b14), .val (.ref b25), .val (.int v41), .unset, .unset] [(.long (((v6.toInt64) + (2 : Int64)) + (v13.toInt64)))])) rfl (hb hby at_52) _ ?_
    show Steps p.tables e below (T27.setTop (mkF m 55 #[.val (.int p0), .val (.int p1), .val (.int v6), .val (.int v13), .val (.ref b14), .val (.ref b25), .val (.int v41), .unset, .unset] [(.long (2 : Int64)), (.long (((v6.toInt64) + (2 : Int64)) + (v13.toInt64)))])) t
    refine XS.ladd X27.here hx rfl (hb hby at_55) rfl ?_
    show Steps p.tables e below (T27.setTop (mkF m 56 #[.val (.int p0), .val (.int p1), .val (.int v6), .val (.int v13), .val (.ref b14), .val (.ref b25), .val (.int v41), .unset, .unset] [(.long ((((v6.toInt64) + (2 : Int64)) + (v13.toInt64)) + (2 : Int64)))])) t
    refine XS.lstore X27.here hx rfl (hb hby at_56) rfl (l' := #[.val (.int p0), .val (.int p1), .val (.int v6), .val (.int v13), .val (.ref b14), .val (.ref b25), .val (.int v41), .val (.long ((((v6.toInt64) + (2 : Int64)) + (v13.toInt64)) + (2 : Int64))), .second]) rfl ?_
    exact kt
  obtain ⟨v56, hv56, K31⟩ : ∃ v56 : Int64, v56 = ((((v6.toInt64) + (2 : Int64)) + (v13.toInt64)) + (2 : Int64)) ∧ ∀ t, Steps p.tables e below (T27.setTop (mkF m 58 #[.val (.int p0), .val (.int p1), .val (.int v6), .val (.int v13), .val (.ref b14), .val (.ref b25), .val (.int v41), .val (.long v56), .second] [])) t → P0 t := ⟨_, rfl, K30⟩
  have K32 : ∀ t, Steps p.tables e below (T27.setTop (mkF m 64 #[.val (.int p0), .val (.int p1), .val (.int v6), .val (.int v13), .val (.ref b14), .val (.ref b25), .val (.int v41), .val (.long v56), .second] [(.int (lcmpW (v41.toInt64) v56))])) t → P0 t := by
    intro t kt
    refine K31 t ?_
    show Steps p.tables e below (T27.setTop (mkF m 58 #[.val (.int p0), .val (.int p1), .val (.int v6), .val (.int v13), .val (.ref b14), .val (.ref b25), .val (.int v41), .val (.long v56), .second] [])) t
    refine XS.iload X27.here hx rfl (hb hby at_58) rfl ?_
    show Steps p.tables e below (T27.setTop (mkF m 60 #[.val (.int p0), .val (.int p1), .val (.int v6), .val (.int v13), .val (.ref b14), .val (.ref b25), .val (.int v41), .val (.long v56), .second] [(.int v41)])) t
    refine XS.i2l X27.here hx rfl (hb hby at_60) rfl ?_
    show Steps p.tables e below (T27.setTop (mkF m 61 #[.val (.int p0), .val (.int p1), .val (.int v6), .val (.int v13), .val (.ref b14), .val (.ref b25), .val (.int v41), .val (.long v56), .second] [(.long (v41.toInt64))])) t
    refine XS.lload X27.here hx rfl (hb hby at_61) rfl ?_
    show Steps p.tables e below (T27.setTop (mkF m 63 #[.val (.int p0), .val (.int p1), .val (.int v6), .val (.int v13), .val (.ref b14), .val (.ref b25), .val (.int v41), .val (.long v56), .second] [(.long v56), (.long (v41.toInt64))])) t
    refine XS.lcmp X27.here hx rfl (hb hby at_63) rfl ?_
    exact kt
  obtain ⟨j103_s0_4, T64, lc65, hj103_s0_4, X66, e67, N68, K69⟩ : ∃ (j103_s0_4 : Int32) (T64 : State) (lc65 : List Loc), j103_s0_4 = (if (v41.toInt64) = v56 then (if v6 < v41 then (if v13 < v41 then (if (fBuf (fChk v13) (fChk v6)) = v41 then (if (fMhs (fChk v13)) = v13 then (1 : Int32) else (0 : Int32)) else (0 : Int32)) else (0 : Int32)) else (0 : Int32)) else (0 : Int32)) ∧ Stand p l e room_1 s m #[(.int p0), (.int p1)] below meth c T64 lc65 2 10 ∧ T64.heap = h20 ∧ Fr n0 lc65 ∧ ∀ t, Steps p.tables e below (T64.setTop (mkF m 103 #[.val (.int p0), .val (.int p1), .val (.int v6), .val (.int v13), .val (.ref b14), .val (.ref b25), .val (.int v41), .val (.long v56), .second] [(.int j103_s0_4)])) t → P0 t := by
    by_cases hc64 : (v41.toInt64) = v56
    · have K33 : ∀ t, Steps p.tables e below (T27.setTop (mkF m 70 #[.val (.int p0), .val (.int p1), .val (.int v6), .val (.int v13), .val (.ref b14), .val (.ref b25), .val (.int v41), .val (.long v56), .second] [(.int v6), (.int v41)])) t → P0 t := by
        intro t kt
        refine K32 t ?_
        show Steps p.tables e below (T27.setTop (mkF m 64 #[.val (.int p0), .val (.int p1), .val (.int v6), .val (.int v13), .val (.ref b14), .val (.ref b25), .val (.int v41), .val (.long v56), .second] [(.int (lcmpW (v41.toInt64) v56))])) t
        refine XS.ifNo X27.here hx rfl (hb hby at_64) rfl ((if0 _ _).trans (teq ((lw_eq (v41.toInt64) v56).mpr hc64)).2) ?_
        show Steps p.tables e below (T27.setTop (mkF m 67 #[.val (.int p0), .val (.int p1), .val (.int v6), .val (.int v13), .val (.ref b14), .val (.ref b25), .val (.int v41), .val (.long v56), .second] [])) t
        refine XS.iload X27.here hx rfl (hb hby at_67) rfl ?_
        show Steps p.tables e below (T27.setTop (mkF m 69 #[.val (.int p0), .val (.int p1), .val (.int v6), .val (.int v13), .val (.ref b14), .val (.ref b25), .val (.int v41), .val (.long v56), .second] [(.int v41)])) t
        refine XS.iloadN X27.here hx rfl (hb hby at_69) rfl ?_
        exact kt
      obtain ⟨j103_s0_3, T57, lc58, hj103_s0_3, X59, e60, N61, K62⟩ : ∃ (j103_s0_3 : Int32) (T57 : State) (lc58 : List Loc), j103_s0_3 = (if v6 < v41 then (if v13 < v41 then (if (fBuf (fChk v13) (fChk v6)) = v41 then (if (fMhs (fChk v13)) = v13 then (1 : Int32) else (0 : Int32)) else (0 : Int32)) else (0 : Int32)) else (0 : Int32)) ∧ Stand p l e room_1 s m #[(.int p0), (.int p1)] below meth c T57 lc58 2 10 ∧ T57.heap = h20 ∧ Fr n0 lc58 ∧ ∀ t, Steps p.tables e below (T57.setTop (mkF m 103 #[.val (.int p0), .val (.int p1), .val (.int v6), .val (.int v13), .val (.ref b14), .val (.ref b25), .val (.int v41), .val (.long v56), .second] [(.int j103_s0_3)])) t → P0 t := by
        by_cases hc70 : v6 < v41
        · have K34 : ∀ t, Steps p.tables e below (T27.setTop (mkF m 76 #[.val (.int p0), .val (.int p1), .val (.int v6), .val (.int v13), .val (.ref b14), .val (.ref b25), .val (.int v41), .val (.long v56), .second] [(.int v13), (.int v41)])) t → P0 t := by
            intro t kt
            refine K33 t ?_
            show Steps p.tables e below (T27.setTop (mkF m 70 #[.val (.int p0), .val (.int p1), .val (.int v6), .val (.int v13), .val (.ref b14), .val (.ref b25), .val (.int v41), .val (.long v56), .second] [(.int v6), (.int v41)])) t
            refine XS.icmpNo X27.here hx rfl (hb hby at_70) rfl (tlt hc70).2.2.2 ?_
            show Steps p.tables e below (T27.setTop (mkF m 73 #[.val (.int p0), .val (.int p1), .val (.int v6), .val (.int v13), .val (.ref b14), .val (.ref b25), .val (.int v41), .val (.long v56), .second] [])) t
            refine XS.iload X27.here hx rfl (hb hby at_73) rfl ?_
            show Steps p.tables e below (T27.setTop (mkF m 75 #[.val (.int p0), .val (.int p1), .val (.int v6), .val (.int v13), .val (.ref b14), .val (.ref b25), .val (.int v41), .val (.long v56), .second] [(.int v41)])) t
            refine XS.iloadN X27.here hx rfl (hb hby at_75) rfl ?_
            exact kt
          obtain ⟨j103_s0_2, T50, lc51, hj103_s0_2, X52, e53, N54, K55⟩ : ∃ (j103_s0_2 : Int32) (T50 : State) (lc51 : List Loc), j103_s0_2 = (if v13 < v41 then (if (fBuf (fChk v13) (fChk v6)) = v41 then (if (fMhs (fChk v13)) = v13 then (1 : Int32) else (0 : Int32)) else (0 : Int32)) else (0 : Int32)) ∧ Stand p l e room_1 s m #[(.int p0), (.int p1)] below meth c T50 lc51 2 10 ∧ T50.heap = h20 ∧ Fr n0 lc51 ∧ ∀ t, Steps p.tables e below (T50.setTop (mkF m 103 #[.val (.int p0), .val (.int p1), .val (.int v6), .val (.int v13), .val (.ref b14), .val (.ref b25), .val (.int v41), .val (.long v56), .second] [(.int j103_s0_2)])) t → P0 t := by
            by_cases hc76 : v13 < v41
            · obtain ⟨cq35, kq35, q35a, q35b, q35c⟩ := isOf hZ e27 F21
              obtain ⟨_, _, ⟨T35, L35, k35, n35⟩, -, X35, ⟨Lc35, hQ35, l35, y35, z35⟩, st35⟩ := X27.virtualBack hx (y := (⟨"com/example/lithe_wire/lithewire/http/RequestParser", "bufferSize", "()I"⟩ : MethodName)) (z := (⟨"com/example/lithe_wire/lithewire/http/RequestParser", "bufferSize", "()I"⟩ : MethodName)) hown (mvT hZ (hw _ (List.mem_of_getElem? (i := 20) rfl))) (mvT hZ (hw _ (List.mem_of_getElem? (i := 21) rfl))) (notFace_of_selects (args := #[]) (mvT hZ (hw _ (List.mem_of_getElem? (i := 23) rfl)))) (mvT hZ (hw _ (List.mem_of_getElem? (i := 23) rfl))) (mvT hZ (hw _ (List.mem_of_getElem? (i := 22) rfl))) (by decide) (backOf (W := 0) (rm_buf l Z a0 hw [] b25 (fChk v13) (fChk v6) h20 n0 Z20 F22 F23) hZ (hw _ (List.mem_of_getElem? (i := 24) rfl)) (hw _ (List.mem_of_getElem? (i := 3) rfl)) (by decide) (by decide)) q35a q35c (g := (mkF m 81 #[.val (.int p0), .val (.int p1), .val (.int v6), .val (.int v13), .val (.ref b14), .val (.ref b25), .val (.int v41), .val (.long v56), .second] [(.ref b25)])) rfl (by rw [hml]; rfl) (Steps.refl _) (argsL := []) (rest := []) (lenOf law_pd1 rfl) rfl (by show 2 * 0 + _ ≤ _; exact Nat.le_of_eq rfl) (hb hby at_81) (fun _ _ => ⟨rfl, e27, (by decide : 2 + 0 ≤ _), (by decide : 10 + 0 ≤ _)⟩)
              dsimp only [Pt.U, Pt.locs, Pt.cells, Pt.slots] at X35 l35 y35 z35 st35 hQ35
              subst l35 y35 z35
              obtain ⟨rfl, N35q, e35⟩ := hQ35
              have N35 := Fr.app N27 N35q
              have K36 : ∀ t, Steps p.tables e below (T35.setTop (mkF m 86 #[.val (.int p0), .val (.int p1), .val (.int v6), .val (.int v13), .val (.ref b14), .val (.ref b25), .val (.int v41), .val (.long v56), .second] [(.int v41), (.int (fBuf (fChk v13) (fChk v6)))])) t → P0 t := by
                intro t kt
                refine K34 t ?_
                show Steps p.tables e below (T27.setTop (mkF m 76 #[.val (.int p0), .val (.int p1), .val (.int v6), .val (.int v13), .val (.ref b14), .val (.ref b25), .val (.int v41), .val (.long v56), .second] [(.int v13), (.int v41)])) t
                refine XS.icmpNo X27.here hx rfl (hb hby at_76) rfl (tlt hc76).2.2.2 ?_
                show Steps p.tables e below (T27.setTop (mkF m 79 #[.val (.int p0), .val (.int p1), .val (.int v6), .val (.int v13), .val (.ref b14), .val (.ref b25), .val (.int v41), .val (.long v56), .second] [])) t
                refine XS.aload X27.here hx rfl (hb hby at_79) rfl rfl ?_
                show Steps p.tables e below (T27.setTop (mkF m 81 #[.val (.int p0), .val (.int p1), .val (.int v6), .val (.int v13), .val (.ref b14), .val (.ref b25), .val (.int v41), .val (.long v56), .second] [(.ref b25)])) t
                refine st35.trans ?_
                show Steps p.tables e below (T35.setTop (mkF m 84 #[.val (.int p0), .val (.int p1), .val (.int v6), .val (.int v13), .val (.ref b14), .val (.ref b25), .val (.int v41), .val (.long v56), .second] [(.int (fBuf (fChk v13) (fChk v6)))])) t
                refine XS.iload X35.here hx rfl (hb hby at_84) rfl ?_
                exact kt
              obtain ⟨j103_s0_1, T43, lc44, hj103_s0_1, X45, e46, N47, K48⟩ : ∃ (j103_s0_1 : Int32) (T43 : State) (lc44 : List Loc), j103_s0_1 = (if (fBuf (fChk v13) (fChk v6)) = v41 then (if (fMhs (fChk v13)) = v13 then (1 : Int32) else (0 : Int32)) else (0 : Int32)) ∧ Stand p l e room_1 s m #[(.int p0), (.int p1)] below meth c T43 lc44 2 10 ∧ T43.heap = h20 ∧ Fr n0 lc44 ∧ ∀ t, Steps p.tables e below (T43.setTop (mkF m 103 #[.val (.int p0), .val (.int p1), .val (.int v6), .val (.int v13), .val (.ref b14), .val (.ref b25), .val (.int v41), .val (.long v56), .second] [(.int j103_s0_1)])) t → P0 t := by
                by_cases hc86 : (fBuf (fChk v13) (fChk v6)) = v41
                · obtain ⟨cq37, kq37, q37a, q37b, q37c⟩ := isOf hZ e35 F24
                  obtain ⟨_, _, ⟨T37, L37, k37, n37⟩, -, X37, ⟨Lc37, hQ37, l37, y37, z37⟩, st37⟩ := X35.virtualBack hx (y := (⟨"com/example/lithe_wire/lithewire/http/RequestParser", "maxHeaderSection", "()I"⟩ : MethodName)) (z := (⟨"com/example/lithe_wire/lithewire/http/RequestParser", "maxHeaderSection", "()I"⟩ : MethodName)) hown (mvT hZ (hw _ (List.mem_of_getElem? (i := 26) rfl))) (mvT hZ (hw _ (List.mem_of_getElem? (i := 27) rfl))) (notFace_of_selects (args := #[]) (mvT hZ (hw _ (List.mem_of_getElem? (i := 29) rfl)))) (mvT hZ (hw _ (List.mem_of_getElem? (i := 29) rfl))) (mvT hZ (hw _ (List.mem_of_getElem? (i := 28) rfl))) (by decide) (backOf (W := 0) (rm_mhs l Z a0 hw [] b14 (fChk v13) h20 n0 Z20 F26) hZ (hw _ (List.mem_of_getElem? (i := 30) rfl)) (hw _ (List.mem_of_getElem? (i := 3) rfl)) (by decide) (by decide)) q37a q37c (g := (mkF m 91 #[.val (.int p0), .val (.int p1), .val (.int v6), .val (.int v13), .val (.ref b14), .val (.ref b25), .val (.int v41), .val (.long v56), .second] [(.ref b14)])) rfl (by rw [hml]; rfl) (Steps.refl _) (argsL := []) (rest := []) (lenOf law_pd1 rfl) rfl (by show 2 * 0 + _ ≤ _; exact Nat.le_of_eq rfl) (hb hby at_91) (fun _ _ => ⟨rfl, e35, (by decide : 2 + 0 ≤ _), (by decide : 10 + 0 ≤ _)⟩)
                  dsimp only [Pt.U, Pt.locs, Pt.cells, Pt.slots] at X37 l37 y37 z37 st37 hQ37
                  subst l37 y37 z37
                  obtain ⟨rfl, N37q, e37⟩ := hQ37
                  have N37 := Fr.app N35 N37q
                  have K38 : ∀ t, Steps p.tables e below (T37.setTop (mkF m 95 #[.val (.int p0), .val (.int p1), .val (.int v6), .val (.int v13), .val (.ref b14), .val (.ref b25), .val (.int v41), .val (.long v56), .second] [(.int v13), (.int (fMhs (fChk v13)))])) t → P0 t := by
                    intro t kt
                    refine K36 t ?_
                    show Steps p.tables e below (T35.setTop (mkF m 86 #[.val (.int p0), .val (.int p1), .val (.int v6), .val (.int v13), .val (.ref b14), .val (.ref b25), .val (.int v41), .val (.long v56), .second] [(.int v41), (.int (fBuf (fChk v13) (fChk v6)))])) t
                    refine XS.icmpNo X35.here hx rfl (hb hby at_86) rfl (teq hc86).2 ?_
                    show Steps p.tables e below (T35.setTop (mkF m 89 #[.val (.int p0), .val (.int p1), .val (.int v6), .val (.int v13), .val (.ref b14), .val (.ref b25), .val (.int v41), .val (.long v56), .second] [])) t
                    refine XS.aload X35.here hx rfl (hb hby at_89) rfl rfl ?_
                    show Steps p.tables e below (T35.setTop (mkF m 91 #[.val (.int p0), .val (.int p1), .val (.int v6), .val (.int v13), .val (.ref b14), .val (.ref b25), .val (.int v41), .val (.long v56), .second] [(.ref b14)])) t
                    refine st37.trans ?_
                    show Steps p.tables e below (T37.setTop (mkF m 94 #[.val (.int p0), .val (.int p1), .val (.int v6), .val (.int v13), .val (.ref b14), .val (.ref b25), .val (.int v41), .val (.long v56), .second] [(.int (fMhs (fChk v13)))])) t
                    refine XS.iloadN X37.here hx rfl (hb hby at_94) rfl ?_
                    exact kt
                  obtain ⟨j103_s0, hj103_s0, K41⟩ : ∃ (j103_s0 : Int32), j103_s0 = (if (fMhs (fChk v13)) = v13 then (1 : Int32) else (0 : Int32)) ∧ ∀ t, Steps p.tables e below (T37.setTop (mkF m 103 #[.val (.int p0), .val (.int p1), .val (.int v6), .val (.int v13), .val (.ref b14), .val (.ref b25), .val (.int v41), .val (.long v56), .second] [(.int j103_s0)])) t → P0 t := by
                    by_cases hc95 : (fMhs (fChk v13)) = v13
                    · have K39 : ∀ t, Steps p.tables e below (T37.setTop (mkF m 103 #[.val (.int p0), .val (.int p1), .val (.int v6), .val (.int v13), .val (.ref b14), .val (.ref b25), .val (.int v41), .val (.long v56), .second] [(.int (1 : Int32))])) t → P0 t := by
                        intro t kt
                        refine K38 t ?_
                        show Steps p.tables e below (T37.setTop (mkF m 95 #[.val (.int p0), .val (.int p1), .val (.int v6), .val (.int v13), .val (.ref b14), .val (.ref b25), .val (.int v41), .val (.long v56), .second] [(.int v13), (.int (fMhs (fChk v13)))])) t
                        refine XS.icmpNo X37.here hx rfl (hb hby at_95) rfl (teq hc95).2 ?_
                        show Steps p.tables e below (T37.setTop (mkF m 98 #[.val (.int p0), .val (.int p1), .val (.int v6), .val (.int v13), .val (.ref b14), .val (.ref b25), .val (.int v41), .val (.long v56), .second] [])) t
                        refine XS.iconst X37.here hx rfl (hb hby at_98) ?_
                        show Steps p.tables e below (T37.setTop (mkF m 99 #[.val (.int p0), .val (.int p1), .val (.int v6), .val (.int v13), .val (.ref b14), .val (.ref b25), .val (.int v41), .val (.long v56), .second] [(.int (1 : Int32))])) t
                        refine XS.goto X37.here hx rfl (pc0 := 99) (pc' := 103) rfl (hb hby at_99) (by decide) (by decide) ?_
                        exact kt
                      exact ⟨_, (if_pos hc95).symm, K39⟩
                    · have K40 : ∀ t, Steps p.tables e below (T37.setTop (mkF m 103 #[.val (.int p0), .val (.int p1), .val (.int v6), .val (.int v13), .val (.ref b14), .val (.ref b25), .val (.int v41), .val (.long v56), .second] [(.int (0 : Int32))])) t → P0 t := by
                        intro t kt
                        refine K38 t ?_
                        show Steps p.tables e below (T37.setTop (mkF m 95 #[.val (.int p0), .val (.int p1), .val (.int v6), .val (.int v13), .val (.ref b14), .val (.ref b25), .val (.int v41), .val (.long v56), .second] [(.int v13), (.int (fMhs (fChk v13)))])) t
                        refine XS.icmpYes X37.here hx rfl (pc0 := 95) (pc' := 102) rfl (hb hby at_95) rfl (feq hc95).2 (by decide) (by decide) ?_
                        show Steps p.tables e below (T37.setTop (mkF m 102 #[.val (.int p0), .val (.int p1), .val (.int v6), .val (.int v13), .val (.ref b14), .val (.ref b25), .val (.int v41), .val (.long v56), .second] [])) t
                        refine XS.iconst X37.here hx rfl (hb hby at_102) ?_
                        exact kt
                      exact ⟨_, (if_neg hc95).symm, K40⟩
                  subst hj103_s0
                  exact ⟨_, _, _, (if_pos hc86).symm, X37, e37, N37, K41⟩
                · have K42 : ∀ t, Steps p.tables e below (T35.setTop (mkF m 103 #[.val (.int p0), .val (.int p1), .val (.int v6), .val (.int v13), .val (.ref b14), .val (.ref b25), .val (.int v41), .val (.long v56), .second] [(.int (0 : Int32))])) t → P0 t := by
                    intro t kt
                    refine K36 t ?_
                    show Steps p.tables e below (T35.setTop (mkF m 86 #[.val (.int p0), .val (.int p1), .val (.int v6), .val (.int v13), .val (.ref b14), .val (.ref b25), .val (.int v41), .val (.long v56), .second] [(.int v41), (.int (fBuf (fChk v13) (fChk v6)))])) t
                    refine XS.icmpYes X35.here hx rfl (pc0 := 86) (pc' := 102) rfl (hb hby at_86) rfl (feq hc86).2 (by decide) (by decide) ?_
                    show Steps p.tables e below (T35.setTop (mkF m 102 #[.val (.int p0), .val (.int p1), .val (.int v6), .val (.int v13), .val (.ref b14), .val (.ref b25), .val (.int v41), .val (.long v56), .second] [])) t
                    refine XS.iconst X35.here hx rfl (hb hby at_102) ?_
                    exact kt
                  exact ⟨_, _, _, (if_neg hc86).symm, X35, e35, N35, K42⟩
              subst hj103_s0_1
              exact ⟨_, _, _, (if_pos hc76).symm, X45, e46, N47, K48⟩
            · have K49 : ∀ t, Steps p.tables e below (T27.setTop (mkF m 103 #[.val (.int p0), .val (.int p1), .val (.int v6), .val (.int v13), .val (.ref b14), .val (.ref b25), .val (.int v41), .val (.long v56), .second] [(.int (0 : Int32))])) t → P0 t := by
                intro t kt
                refine K34 t ?_
                show Steps p.tables e below (T27.setTop (mkF m 76 #[.val (.int p0), .val (.int p1), .val (.int v6), .val (.int v13), .val (.ref b14), .val (.ref b25), .val (.int v41), .val (.long v56), .second] [(.int v13), (.int v41)])) t
                refine XS.icmpYes X27.here hx rfl (pc0 := 76) (pc' := 102) rfl (hb hby at_76) rfl (flt hc76).2.2.2 (by decide) (by decide) ?_
                show Steps p.tables e below (T27.setTop (mkF m 102 #[.val (.int p0), .val (.int p1), .val (.int v6), .val (.int v13), .val (.ref b14), .val (.ref b25), .val (.int v41), .val (.long v56), .second] [])) t
                refine XS.iconst X27.here hx rfl (hb hby at_102) ?_
                exact kt
              exact ⟨_, _, _, (if_neg hc76).symm, X27, e27, N27, K49⟩
          subst hj103_s0_2
          exact ⟨_, _, _, (if_pos hc70).symm, X52, e53, N54, K55⟩
        · have K56 : ∀ t, Steps p.tables e below (T27.setTop (mkF m 103 #[.val (.int p0), .val (.int p1), .val (.int v6), .val (.int v13), .val (.ref b14), .val (.ref b25), .val (.int v41), .val (.long v56), .second] [(.int (0 : Int32))])) t → P0 t := by
            intro t kt
            refine K33 t ?_
            show Steps p.tables e below (T27.setTop (mkF m 70 #[.val (.int p0), .val (.int p1), .val (.int v6), .val (.int v13), .val (.ref b14), .val (.ref b25), .val (.int v41), .val (.long v56), .second] [(.int v6), (.int v41)])) t
            refine XS.icmpYes X27.here hx rfl (pc0 := 70) (pc' := 102) rfl (hb hby at_70) rfl (flt hc70).2.2.2 (by decide) (by decide) ?_
            show Steps p.tables e below (T27.setTop (mkF m 102 #[.val (.int p0), .val (.int p1), .val (.int v6), .val (.int v13), .val (.ref b14), .val (.ref b25), .val (.int v41), .val (.long v56), .second] [])) t
            refine XS.iconst X27.here hx rfl (hb hby at_102) ?_
            exact kt
          exact ⟨_, _, _, (if_neg hc70).symm, X27, e27, N27, K56⟩
      subst hj103_s0_3
      exact ⟨_, _, _, (if_pos hc64).symm, X59, e60, N61, K62⟩
    · have K63 : ∀ t, Steps p.tables e below (T27.setTop (mkF m 103 #[.val (.int p0), .val (.int p1), .val (.int v6), .val (.int v13), .val (.ref b14), .val (.ref b25), .val (.int v41), .val (.long v56), .second] [(.int (0 : Int32))])) t → P0 t := by
        intro t kt
        refine K32 t ?_
        show Steps p.tables e below (T27.setTop (mkF m 64 #[.val (.int p0), .val (.int p1), .val (.int v6), .val (.int v13), .val (.ref b14), .val (.ref b25), .val (.int v41), .val (.long v56), .second] [(.int (lcmpW (v41.toInt64) v56))])) t
        refine XS.ifYes X27.here hx rfl (pc0 := 64) (pc' := 102) rfl (hb hby at_64) rfl ((if0 _ _).trans (feq (fun q => hc64 ((lw_eq (v41.toInt64) v56).mp q))).2) (by decide) (by decide) ?_
        show Steps p.tables e below (T27.setTop (mkF m 102 #[.val (.int p0), .val (.int p1), .val (.int v6), .val (.int v13), .val (.ref b14), .val (.ref b25), .val (.int v41), .val (.long v56), .second] [])) t
        refine XS.iconst X27.here hx rfl (hb hby at_102) ?_
        exact kt
      exact ⟨_, _, _, (if_neg hc64).symm, X27, e27, N27, K63⟩
  have hres : j103_s0_4 = 1 := own_plain p0 p1 v6 v13 v41 v56 j103_s0_4 hv6 hv13 hv41 hv56 hj103_s0_4
  obtain ⟨fs, hr, hrun, hended, hW, hsame⟩ := X66.leave (v := some (.int (1 : Int32))) (fun h => by rw [Bd.returns] at h; cases h)
  refine ⟨_, _, ?_, hrun, hended, _, _, rfl, ?_, ⟨_, rfl⟩, hW, hsame.mono (by decide) (by decide)⟩
  · rw [hres] at K69
    have q := K69 _ (retN X66 hx (t := .boolean) Bd.returns (by simp) (hb hby at_103) hr)
    rw [hP0] at q; exact q
  · exact ⟨rfl, N68⟩
set_option maxRecDepth 65536 in
set_option maxHeartbeats 40000000 in
theorem comes_1 {Post : Tables → Env → Array Value → State → Outcome → State → Prop} (hpost : ∀ tb e args s v u, (limb_1_1.after args s (.returned v) u = true ∧ limb_1_2.after args s (.returned v) u = true ∧ True) → FrameEnd s (.returned v) u (Jvm.fieldLocs frame_1_writes args s ++ Jvm.arrayLocs frame_1_arrays args s ++ Jvm.staticLocs frame_1_statics s) 16 128 → Post tb e args s (.returned v) u) :
    ArmFor flags0 classFile x code maxLocals ret World_1 tables_1 room_1 Calls_1 rest_1 Pre_1 Post := by
  intro l hfl _ _ p e ha hc hk s m args below hf hA hF happ hP
  obtain ⟨hcalls, hrest, hpre⟩ := hP
  obtain ⟨-, -, -, hnamed, -, -, -, hat⟩ := (Spec.applies_iff hf).mp happ
  obtain ⟨hg, hn⟩ := and_e (Cond.before_iff.mp (show (Jvm.Cond.and given_1 narrow_1).before args s = true from hpre))
  obtain ⟨gc, gr0⟩ := and_e hg
  obtain ⟨ga0, gr1⟩ := and_e gr0
  obtain ⟨w0, w1, rfl⟩ : ∃ w0 w1 : Value, args = #[w0, w1] := by
    have hs : args.size = 2 := by simpa [Cond.value, given_1] using gc
    obtain ⟨L⟩ := args
    match L, hs with
    | [w0, w1], _ => exact ⟨w0, w1, rfl⟩
  have hw := fun d (hd : d ∈ tables_1) => atoms_spec (ws := Jvm.Cond.code x code maxLocals ret :: tables_1) hat d (List.mem_cons_of_mem _ hd)
  obtain ⟨i0, ei0⟩ := is_v ga0
  obtain rfl : w0 = (.int i0) := Option.some.inj ei0
  obtain ⟨i1, ei1⟩ := is_v gr1
  obtain rfl : w1 = (.int i1) := Option.some.inj ei1
  obtain ⟨n, o, h1, h2, h3, _, L, rfl, ⟨rfl, N⟩, hq⟩ := rm_law l s _ hw tables_1 i0 i1 s.heap s.heap.size (Nat.le_refl _) p e ha hc hk s m _ below hf ((Spec.applies_iff_loose hf).mp happ).1 ⟨rfl, State.Warmed39.refl s, rfl⟩ trivial
  refine ⟨n, _, h1, h2, h3, hpost _ _ _ _ _ _ ⟨Cond.after_iff.mpr rfl, Cond.after_iff.mpr (eq_i res_at (Term.int_eval (1)) rfl), trivial⟩ ⟨hq.1, hq.2.1, (hq.2.2.sift fun y hy => Or.inr (N y hy)).mono (by decide) (by decide)⟩⟩
theorem main_1_1 : Claimed_1_1 := comes_1 fun _ _ _ _ _ _ h hF => ⟨h.1, hF⟩
theorem main_1_2 : Claimed_1_2 := comes_1 fun _ _ _ _ _ _ h hF => ⟨h.2.1, hF⟩
end Jvm.Pilot.@@N@@
namespace Jvm.Pilot.@@N@@
open Jvm Jvm.ClassFile Sem Op Lib Jvm.Free Jvm.Stand Jvm.Pilot.@@N@@.Jvm.D
/-! MADE BY PROGRAM (witnessworld.py) out of the Statement's table words and the real class files: 9 classes; the members and pool entries that the words name. The judged class is class 1, her method 1. -/
namespace start1
open Jvm.ClassFile
def u (s : String) : CpInfo := .utf8 (stringToUtf16 s)
/-- a pool by its gaps: so many unusable entries, then the entry; so many at the end -/
def gap : Nat → List CpInfo → List CpInfo
  | 0, r => r
  | n + 1, r => .unusable :: gap n r
def poolList (es : List (Nat × CpInfo)) (last : Nat) : List CpInfo := es.foldr (fun e r => gap e.1 (e.2 :: r)) (gap last [])
def pool (es : List (Nat × CpInfo)) (last : Nat) : Array CpInfo := ⟨poolList es last⟩
def fileOf (pool : Array CpInfo) (this : Nat) (attrs : Array Attribute := #[]) (ms : Array MethodInfo := #[]) (fl : Nat := 33) (sup : Nat := 0) (ifs : Array Nat := #[]) (fds : Array FieldInfo := #[]) : ClassFile where
  minorVersion := 0
  majorVersion := 65
  constantPool := pool
  accessFlags := fl
  thisClass := this
  superClass := sup
  interfaces := ifs
  fields := fds
  methods := ms
  attributes := attrs
def plain (name : String) (sup : Option ClassId) : Class where
  name := name
  kind := .ordinary
  loader := none
  accessFlags := 33
  super := sup
  interfaces := #[]
  cf := none
  fields := #[]
  methods := #[]
  instanceTypes := #[]
  staticTypes := #[]
  resolved := #[]
  callSites := []
  init := .initialized
  statics := none
  mirror := none

def pool0 : Array CpInfo := pool [(5, u "<init>"), (0, u "()V"), (1, .class_ 10), (1, u "java/lang/Object")] 113

def k0c0 : Code := { maxStack := 0, maxLocals := 1, code := object_method_1_code, exceptionTable := #[], attributes := #[] }
def k0m0 : Method := { name := "<init>", desc := "()V", sig := { parameters := [], returnType := none }, accessFlags := 1, code := some k0c0 }
/-- java/lang/Object -/
def k0 : Class := { plain "java/lang/Object" none with
  accessFlags := 33
  interfaces := #[]
  cf := some (fileOf pool0 8 #[] #[{ accessFlags := 1, nameIndex := 5, descriptorIndex := 6, attributes := #[] }] 33 0 #[] #[])
  fields := #[]
  methods := #[k0m0]
  instanceTypes := #[]
  staticTypes := #[]
  resolved := Array.replicate 124 none
  statics := none }

def pool1 : Array CpInfo := pool [(2, .class_ 4), (1, u "java/lang/Object"), (0, u "<init>"), (0, u "()V"), (0, .integer 1048575), (0, .class_ 9), (0, u "com/example/lithe_wire/lithewire/http/RequestParser"), (0, .methodref 8 11), (0, .nameAndType 5 12), (0, u "(II)V"), (0, .methodref 8 14), (0, .nameAndType 15 16), (0, u "bufferSize"), (0, u "()I"), (0, .long 2), (1, .methodref 8 20), (0, .nameAndType 21 16), (0, u "maxHeaderSection"), (0, .class_ 23), (0, u "com/example/lithe_wire/lithewire/http/RequestParserBufferSizePinLaw"), (2, u "law"), (0, u "(II)Z")] 3

def k1m0 : Method := { name := "<init>", desc := "()V", sig := { parameters := [], returnType := none }, accessFlags := 1, code := none }
def k1c1 : Code := { maxStack := 4, maxLocals := 9, code := code, exceptionTable := #[], attributes := #[] }
def k1m1 : Method := { name := "law", desc := "(II)Z", sig := { parameters := [.int, .int], returnType := some .boolean }, accessFlags := 9, code := some k1c1 }
/-- com/example/lithe_wire/lithewire/http/RequestParserBufferSizePinLaw -/
def k1 : Class := { plain "com/example/lithe_wire/lithewire/http/RequestParserBufferSizePinLaw" (some 0) with
  accessFlags := 49
  interfaces := #[]
  cf := some (fileOf pool1 22 #[] #[{ accessFlags := 1, nameIndex := 5, descriptorIndex := 6, attributes := #[] }, { accessFlags := 9, nameIndex := 26, descriptorIndex := 27, attributes := #[] }] 49 2 #[] #[])
  fields := #[]
  methods := #[k1m0, k1m1]
  instanceTypes := #[]
  staticTypes := #[]
  resolved := Array.replicate 31 none
  statics := none }

def pool2 : Array CpInfo := pool [(1, .methodref 2 3), (0, .class_ 4), (0, .nameAndType 5 6), (0, u "java/lang/Object"), (0, u "<init>"), (0, u "()V"), (0, .fieldref 8 9), (0, .class_ 10), (0, .nameAndType 11 12), (0, u "com/example/lithe_wire/lithewire/http/RequestParser"), (0, u "requestLineEnd"), (0, u "I"), (0, .methodref 8 14), (0, .nameAndType 15 16), (0, u "checkLimit"), (0, u "(I)I"), (0, .fieldref 8 18), (0, .nameAndType 19 12), (0, u "maxRequestLine"), (0, .fieldref 8 21), (0, .nameAndType 22 12), (0, u "maxHeaderSection"), (0, .integer 1048576), (11, u "scanned"), (9, u "()I"), (35, u "lineStart"), (74, u "HTTP_1_1"), (74, u "HTTP_SCHEME"), (0, u "Ljava/util/regex/Pattern;"), (44, u "[B"), (7, u "HTTP_1_0"), (4, u "VERSION_SYNTAX"), (47, u "DEFAULT_MAX_REQUEST_LINE"), (2, u "DEFAULT_MAX_HEADER_SECTION"), (0, u "MAX_LIMIT"), (0, u "(II)V"), (3, u "bufferSize")] 29

def k2c0 : Code := { maxStack := 2, maxLocals := 3, code := prog_29_method_1_code, exceptionTable := #[], attributes := #[] }
def k2m0 : Method := { name := "<init>", desc := "(II)V", sig := { parameters := [.int, .int], returnType := none }, accessFlags := 1, code := some k2c0 }
def k2c1 : Code := { maxStack := 3, maxLocals := 1, code := prog_29_method_2_code, exceptionTable := #[], attributes := #[] }
def k2m1 : Method := { name := "checkLimit", desc := "(I)I", sig := { parameters := [.int], returnType := some .int }, accessFlags := 9, code := some k2c1 }
def k2c2 : Code := { maxStack := 1, maxLocals := 1, code := prog_29_method_3_code, exceptionTable := #[], attributes := #[] }
def k2m2 : Method := { name := "maxHeaderSection", desc := "()I", sig := { parameters := [], returnType := some .int }, accessFlags := 1, code := some k2c2 }
def k2c3 : Code := { maxStack := 2, maxLocals := 1, code := prog_29_method_4_code, exceptionTable := #[], attributes := #[] }
def k2m3 : Method := { name := "bufferSize", desc := "()I", sig := { parameters := [], returnType := some .int }, accessFlags := 1, code := some k2c3 }
/-- com/example/lithe_wire/lithewire/http/RequestParser -/
def k2 : Class := { plain "com/example/lithe_wire/lithewire/http/RequestParser" (some 0) with
  accessFlags := 49
  interfaces := #[]
  cf := some (fileOf pool2 8 #[] #[{ accessFlags := 1, nameIndex := 5, descriptorIndex := 343, attributes := #[] }, { accessFlags := 9, nameIndex := 15, descriptorIndex := 16, attributes := #[] }, { accessFlags := 1, nameIndex := 22, descriptorIndex := 45, attributes := #[] }, { accessFlags := 1, nameIndex := 347, descriptorIndex := 45, attributes := #[] }] 49 2 #[] #[{ accessFlags := 25, nameIndex := 338, descriptorIndex := 12, attributes := #[] }, { accessFlags := 25, nameIndex := 341, descriptorIndex := 12, attributes := #[] }, { accessFlags := 25, nameIndex := 342, descriptorIndex := 12, attributes := #[] }, { accessFlags := 26, nameIndex := 290, descriptorIndex := 232, attributes := #[] }, { accessFlags := 26, nameIndex := 231, descriptorIndex := 232, attributes := #[] }, { accessFlags := 26, nameIndex := 156, descriptorIndex := 277, attributes := #[] }, { accessFlags := 26, nameIndex := 285, descriptorIndex := 277, attributes := #[] }, { accessFlags := 18, nameIndex := 19, descriptorIndex := 12, attributes := #[] }, { accessFlags := 18, nameIndex := 22, descriptorIndex := 12, attributes := #[] }, { accessFlags := 2, nameIndex := 35, descriptorIndex := 12, attributes := #[] }, { accessFlags := 2, nameIndex := 11, descriptorIndex := 12, attributes := #[] }, { accessFlags := 2, nameIndex := 81, descriptorIndex := 12, attributes := #[] }])
  fields := #[{ name := "DEFAULT_MAX_REQUEST_LINE", type := .int, accessFlags := 25, slot := 0, constantValue := 0 }, { name := "DEFAULT_MAX_HEADER_SECTION", type := .int, accessFlags := 25, slot := 1, constantValue := 0 }, { name := "MAX_LIMIT", type := .int, accessFlags := 25, slot := 2, constantValue := 0 }, { name := "VERSION_SYNTAX", type := (.object "java/util/regex/Pattern"), accessFlags := 26, slot := 3, constantValue := 0 }, { name := "HTTP_SCHEME", type := (.object "java/util/regex/Pattern"), accessFlags := 26, slot := 4, constantValue := 0 }, { name := "HTTP_1_1", type := (.array .byte), accessFlags := 26, slot := 5, constantValue := 0 }, { name := "HTTP_1_0", type := (.array .byte), accessFlags := 26, slot := 6, constantValue := 0 }, { name := "maxRequestLine", type := .int, accessFlags := 18, slot := 0, constantValue := 0 }, { name := "maxHeaderSection", type := .int, accessFlags := 18, slot := 1, constantValue := 0 }, { name := "scanned", type := .int, accessFlags := 2, slot := 2, constantValue := 0 }, { name := "requestLineEnd", type := .int, accessFlags := 2, slot := 3, constantValue := 0 }, { name := "lineStart", type := .int, accessFlags := 2, slot := 4, constantValue := 0 }]
  methods := #[k2m0, k2m1, k2m2, k2m3]
  instanceTypes := #[.int, .int, .int, .int, .int]
  staticTypes := #[.int, .int, .int, (.object "java/util/regex/Pattern"), (.object "java/util/regex/Pattern"), (.array .byte), (.array .byte)]
  resolved := Array.replicate 377 none
  statics := none }

def pool3 : Array CpInfo := pool [(1, u "java/lang/Cloneable"), (0, .class_ 1), (0, u "java/lang/Object"), (0, .class_ 3)] 3

/-- java/lang/Cloneable -/
def k3 : Class := { plain "java/lang/Cloneable" (some 0) with
  accessFlags := 1537
  interfaces := #[]
  cf := some (fileOf pool3 2 #[] #[] 1537 4 #[] #[])
  fields := #[]
  methods := #[]
  instanceTypes := #[]
  staticTypes := #[]
  resolved := Array.replicate 8 none
  statics := none }

def pool4 : Array CpInfo := pool [(1, u "java/io/Serializable"), (0, .class_ 1), (0, u "java/lang/Object"), (0, .class_ 3)] 3

/-- java/io/Serializable -/
def k4 : Class := { plain "java/io/Serializable" (some 0) with
  accessFlags := 1537
  interfaces := #[]
  cf := some (fileOf pool4 2 #[] #[] 1537 4 #[] #[])
  fields := #[]
  methods := #[]
  instanceTypes := #[]
  staticTypes := #[]
  resolved := Array.replicate 8 none
  statics := none }

/-- the primitive byte -/
def k5 : Class := { plain "byte" none with kind := .primitive 'B', accessFlags := 0x411 }
/-- [B -/
def k6 : Class := { plain "[B" (some 0) with kind := .array 5 .byte, interfaces := #[3, 4], accessFlags := 1041 }

/-- the primitive int -/
def k7 : Class := { plain "int" none with kind := .primitive 'I', accessFlags := 0x411 }
/-- [I -/
def k8 : Class := { plain "[I" (some 0) with kind := .array 7 .int, interfaces := #[3, 4], accessFlags := 1041 }

def heap : Heap := #[]
def classes : Array Class := #[k0, k1, k2, k3, k4, k5, k6, k7, k8]
def interned : List (Array UInt16 × Addr) := []
def slotsUsed : Nat := 0
def theMethod : MethodId := ⟨1, 1⟩
def args0 : Array Value := #[.int 5, .int 300]
def aboutOver (below : List Frame) : State where
  vm := { classes := classes, interned := interned.toArray }
  heap := heap
  slotsUsed := slotsUsed
  threads := #[{ frames := .invoking theMethod args0 :: below }]
def below0 : List Frame := [.native { method := ⟨0, 0⟩, args := #[] }]
def about1 : State := aboutOver below0
def p0 : Program := .bare "" "" ""
def e0 : Env := launch0.env 0 0 0
theorem w_frames : about1.frames = Frame.invoking theMethod args0 :: below0 := rfl
set_option maxRecDepth 65536 in
theorem w_args : argsFit about1.vm theMethod args0 = true := by decide +kernel
set_option maxRecDepth 65536 in
theorem w_heap : heapFits about1 = true := by decide +kernel
set_option maxRecDepth 65536 in
theorem w_runnable : about1.curStatus? = some .runnable := by decide +kernel
set_option maxRecDepth 65536 in
theorem w_alone : about1.alone = true := by decide +kernel
set_option maxRecDepth 65536 in
theorem w_named : about1.methodNamed? x = some theMethod := by decide +kernel
set_option maxRecDepth 65536 in
theorem w_hears : about1.hears theMethod below0 = true := by decide +kernel
set_option maxRecDepth 65536 in
theorem w_ripe : about1.ripe theMethod args0 below0 = true := by decide +kernel
theorem w_running : about1.status = .running := rfl
set_option maxRecDepth 65536 in
theorem w_room : about1.hasRoom e0.platform room_1 = true :=
  launch0.hasRoom_least _ room_1 (by decide +kernel) (by decide +kernel) (by decide +kernel) (by decide +kernel) (by decide +kernel) (by decide +kernel)
theorem allAtoms_all (ts : List Jvm.Cond) (a : Array Jvm.Value) (st : Jvm.State) : (allAtoms ts).before a st = ts.all (fun c => c.before a st) := by
  induction ts with
  | nil => rfl
  | cons c t ih =>
    show (Jvm.Cond.and c (allAtoms t)).before a st = _
    rw [Jvm.Cond.before_and, ih, List.all_cons]
def words1 : List Jvm.Cond := Jvm.Cond.code x code maxLocals ret :: tables_1
/-- a 'code' word, met by the world's own term for the bytes: nothing is compared byte by byte -/
theorem code_word {y : MethodName} {bytes : ByteArray} {mx : Nat} {rt : Option FieldType} {a : Array Value} {s : State} {m : MethodId} {meth : Method} {c : Code} (h1 : s.methodNamed? y = some m) (h2 : s.vm.method? m = some meth) (h3 : meth.code = some c) (h4 : c.code = bytes)
    (h5 : (c.maxLocals == mx && c.exceptionTable.isEmpty && decide (c.maxStack ≤ mostOperands) && decide (meth.sig.returnType = rt) && !meth.locks && decide (parseMethodDescriptor y.desc = some meth.sig)) = true) : (Jvm.Cond.code y bytes mx rt).before a s = true := by
  simp only [Bool.and_eq_true, beq_iff_eq, Bool.not_eq_true', decide_eq_true_eq] at h5
  obtain ⟨⟨⟨⟨⟨g1, g2⟩, g3⟩, g4⟩, g5⟩, g6⟩ := h5
  simp [Cond.before, Cond.holds, Cond.value, h1, h2, h3, h4, g1, g2, g3, g4, g5, g6]
def isCode : Jvm.Cond → Bool
  | .code _ _ _ _ => true
  | _ => false
theorem all_split {L : List Jvm.Cond} {P : Jvm.Cond → Bool} (h1 : L.all (fun c => isCode c || P c) = true) (h2 : ∀ c ∈ L.filter isCode, P c = true) : L.all P = true := by
  refine List.all_eq_true.mpr fun c hc => ?_
  have h := List.all_eq_true.mp h1 c hc
  rcases Bool.eq_false_or_eq_true (isCode c) with hi | hi
  · exact h2 c (List.mem_filter.mpr ⟨hc, hi⟩)
  · simpa [hi] using h
set_option maxRecDepth 65536 in
theorem w_c0 : (Jvm.Cond.code x code maxLocals ret).before args0 about1 = true := code_word (m := ⟨1, 1⟩) (meth := k1m1) (c := k1c1) (by decide +kernel) rfl rfl rfl (by decide +kernel)
set_option maxRecDepth 65536 in
theorem w_c1 : (Jvm.Cond.code ({ cls := "com/example/lithe_wire/lithewire/http/RequestParser", name := "<init>", desc := "(II)V" } : Jvm.MethodName) prog_29_method_1_code (3 : Nat) (Option.none : Option Jvm.ClassFile.FieldType)).before args0 about1 = true := code_word (m := ⟨2, 0⟩) (meth := k2m0) (c := k2c0) (by decide +kernel) rfl rfl rfl (by decide +kernel)
set_option maxRecDepth 65536 in
theorem w_c2 : (Jvm.Cond.code ({ cls := "java/lang/Object", name := "<init>", desc := "()V" } : Jvm.MethodName) object_method_1_code (1 : Nat) (Option.none : Option Jvm.ClassFile.FieldType)).before args0 about1 = true := code_word (m := ⟨0, 0⟩) (meth := k0m0) (c := k0c0) (by decide +kernel) rfl rfl rfl (by decide +kernel)
set_option maxRecDepth 65536 in
theorem w_c3 : (Jvm.Cond.code ({ cls := "com/example/lithe_wire/lithewire/http/RequestParser", name := "checkLimit", desc := "(I)I" } : Jvm.MethodName) prog_29_method_2_code (1 : Nat) (Option.some Jvm.ClassFile.FieldType.int)).before args0 about1 = true := code_word (m := ⟨2, 1⟩) (meth := k2m1) (c := k2c1) (by decide +kernel) rfl rfl rfl (by decide +kernel)
set_option maxRecDepth 65536 in
theorem w_c4 : (Jvm.Cond.code ({ cls := "com/example/lithe_wire/lithewire/http/RequestParser", name := "bufferSize", desc := "()I" } : Jvm.MethodName) prog_29_method_4_code (1 : Nat) (Option.some Jvm.ClassFile.FieldType.int)).before args0 about1 = true := code_word (m := ⟨2, 3⟩) (meth := k2m3) (c := k2c3) (by decide +kernel) rfl rfl rfl (by decide +kernel)
set_option maxRecDepth 65536 in
theorem w_c5 : (Jvm.Cond.code ({ cls := "com/example/lithe_wire/lithewire/http/RequestParser", name := "maxHeaderSection", desc := "()I" } : Jvm.MethodName) prog_29_method_3_code (1 : Nat) (Option.some Jvm.ClassFile.FieldType.int)).before args0 about1 = true := code_word (m := ⟨2, 2⟩) (meth := k2m2) (c := k2c2) (by decide +kernel) rfl rfl rfl (by decide +kernel)
def codes1 : List Jvm.Cond := [Jvm.Cond.code x code maxLocals ret, Jvm.Cond.code ({ cls := "com/example/lithe_wire/lithewire/http/RequestParser", name := "<init>", desc := "(II)V" } : Jvm.MethodName) prog_29_method_1_code (3 : Nat) (Option.none : Option Jvm.ClassFile.FieldType), Jvm.Cond.code ({ cls := "java/lang/Object", name := "<init>", desc := "()V" } : Jvm.MethodName) object_method_1_code (1 : Nat) (Option.none : Option Jvm.ClassFile.FieldType), Jvm.Cond.code ({ cls := "com/example/lithe_wire/lithewire/http/RequestParser", name := "checkLimit", desc := "(I)I" } : Jvm.MethodName) prog_29_method_2_code (1 : Nat) (Option.some Jvm.ClassFile.FieldType.int), Jvm.Cond.code ({ cls := "com/example/lithe_wire/lithewire/http/RequestParser", name := "bufferSize", desc := "()I" } : Jvm.MethodName) prog_29_method_4_code (1 : Nat) (Option.some Jvm.ClassFile.FieldType.int), Jvm.Cond.code ({ cls := "com/example/lithe_wire/lithewire/http/RequestParser", name := "maxHeaderSection", desc := "()I" } : Jvm.MethodName) prog_29_method_3_code (1 : Nat) (Option.some Jvm.ClassFile.FieldType.int)]
set_option maxRecDepth 65536 in
theorem codes_eq : words1.filter isCode = codes1 := rfl
theorem w_codes : ∀ c ∈ words1.filter isCode, c.before args0 about1 = true := by
  rw [codes_eq]
  intro c hc
  simp only [codes1, List.mem_cons, List.not_mem_nil, or_false] at hc
  rcases hc with rfl | rfl | rfl | rfl | rfl | rfl
  · exact w_c0
  · exact w_c1
  · exact w_c2
  · exact w_c3
  · exact w_c4
  · exact w_c5
set_option maxRecDepth 65536 in
theorem w_t1 : (words1.take 24).all (fun c => isCode c || c.before args0 about1) = true := by decide +kernel
set_option maxRecDepth 65536 in
theorem w_t2 : (words1.drop 24).all (fun c => isCode c || c.before args0 about1) = true := by decide +kernel
theorem w_tables : (allAtoms (Jvm.Cond.code x code maxLocals ret :: tables_1)).before args0 about1 = true := by
  rw [allAtoms_all]
  show words1.all (fun c => c.before args0 about1) = true
  refine all_split ?_ w_codes
  rw [← List.take_append_drop 24 words1, List.all_append, w_t1, w_t2]
  rfl
set_option maxRecDepth 65536 in
theorem w_case : (Jvm.Cond.and given_1 narrow_1).before args0 about1 = true := by decide +kernel
theorem w_applies : (headSpec (Jvm.Cond.code x code maxLocals ret :: tables_1) room_1).applies x e0.platform about1 = true :=
  (Spec.applies_iff w_frames).mpr ⟨w_running, w_runnable, w_alone, w_named, w_hears, w_ripe, w_room, w_tables⟩
theorem atStart : AtStart classFile x code maxLocals ret World_1 tables_1 room_1 Calls_1 rest_1 Pre_1 launch0 p0 e0 about1 theMethod args0 below0 :=
  ⟨lists_1, trivial, launch0.admits_env _ _ _, launch0.least_env, fairChoices_fair.cas, fairChoices_fair.clock, w_frames, w_args, w_heap, w_applies, trivial, trivial, w_case⟩
end start1
theorem witness_1 : WitnessClaimed_1 := ⟨start1.p0, start1.e0, start1.about1, start1.theMethod, start1.args0, start1.below0, start1.atStart⟩
end Jvm.Pilot.@@N@@
