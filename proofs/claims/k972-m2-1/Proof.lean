import JvmDerived
import JvmDerived.Pilot.@@N@@Statement
import JvmDerived.Pilot.@@N@@Code
set_option linter.unusedVariables false
set_option linter.unusedSimpArgs false
namespace Jvm.Pilot.@@N@@
open Jvm Jvm.ClassFile Sem Op Lib Jvm.Free Jvm.Stand Jvm.LawKit Jvm.RoadKit Bundle Jvm.Pilot.@@N@@.Jvm.D
/-! my own small laws: arrays by a function of the place; returns -/
def IA (Z : State) (h : Heap) (a : Addr) (ty : FieldType) (n : Nat) (f : Nat → Int32) : Prop :=
  ∃ c : Cell, Arr Z h a c ty ∧ c.slots.size = n ∧ ∀ j, j < n → c.slots[j]? = some (.int (f j)) ∧ fits ty (.int (f j)) = true
def JA (Z : State) (h : Heap) (a : Addr) (n : Nat) (f : Nat → Int64) : Prop :=
  ∃ c : Cell, Arr Z h a c .long ∧ c.slots.size = n ∧ ∀ j, j < n → c.slots[j]? = some (.long (f j))
def upd (f : Nat → Int32) (i : Nat) (v : Int32) : Nat → Int32 := fun j => if j = i then v else f j
def updJ (f : Nat → Int64) (i : Nat) (v : Int64) : Nat → Int64 := fun j => if j = i then v else f j
def QP (r : Value) (h0 : Heap) (n0 : Nat) (v : Option Value) (h : Heap) (L : List Loc) : Prop := v = some r ∧ Fr n0 L ∧ h = h0
def QL (n0 : Nat) (v : Option Value) (h : Heap) (L : List Loc) : Prop := v = some (.int 1) ∧ Fr n0 L
section Own
variable {p : Program} {l : Launch} {e : Env} {R : Room} {s : State} {m : MethodId} {args : Array Value} {below : List Frame} {meth : Method} {c : Code} {T : State} {locs : List Loc} {cells slots : Nat} {Z : State} {h h' : Heap} {a b : Addr} {ty : FieldType} {n : Nat} {f : Nat → Int32} {fJ : Nat → Int64} {sl : Nat} {v : Value} {wl : List Addr}
theorem IA.lt (F : IA Z h a ty n f) : a < h.size := by obtain ⟨c, A, -⟩ := F; exact A.lt
theorem IA.ext (F : IA Z h a ty n f) (E : Ext h h') : IA Z h' a ty n f := by obtain ⟨c, A, r⟩ := F; exact ⟨c, A.ext E, r⟩
theorem IA.other (F : IA Z h b ty n f) (W : Wr h h' a sl v) (q : b ≠ a) : IA Z h' b ty n f := by obtain ⟨c, A, r⟩ := F; exact ⟨c, A.other W q, r⟩
theorem IA.keep (F : IA Z h a ty n f) (K : Keep h h' wl) (q : a ∉ wl) : IA Z h' a ty n f := by obtain ⟨c, A, r⟩ := F; exact ⟨c, ⟨K.2.1 a c A.1 q, A.2⟩, r⟩
theorem IA.new {k : ClassId} {z : Int32} (A : Arr Z h a (newA k ty z) ty) (hd : defaultValue ty = .int 0) (hf : fits ty (.int 0) = true) (hz : z.toNatClampNeg = n) : IA Z h a ty n (fun _ => 0) := by
  refine ⟨_, A, by rw [sz_new, hz], fun j hj => ⟨?_, hf⟩⟩
  have : j < z.toNatClampNeg := by rw [hz]; exact hj
  simp [newA, hd, this]
theorem IA.set {c : Cell} (A : Arr Z h a c ty) (S : c.slots.size = n) (H : ∀ j, j < n → c.slots[j]? = some (.int (f j)) ∧ fits ty (.int (f j)) = true) {x : Int32} (hv : fits ty (.int x) = true) {i : Nat} (W : Wr h h' a i (.int x)) (hi : i < n) : IA Z h' a ty n (upd f i x) := by
  refine ⟨_, A.same W, by rw [sz_set, S], fun j hj => ?_⟩
  unfold upd
  by_cases q : j = i
  · subst q; simp [Cell.setSlot, S, hi, hv]
  · have := H j hj
    rw [if_neg q]
    refine ⟨?_, this.2⟩
    rw [← this.1]
    show (c.slots.setIfInBounds i (.int x))[j]? = _
    exact Array.getElem?_setIfInBounds_ne (Ne.symm q)
theorem JA.lt (F : JA Z h a n fJ) : a < h.size := by obtain ⟨c, A, -⟩ := F; exact A.lt
theorem JA.ext (F : JA Z h a n fJ) (E : Ext h h') : JA Z h' a n fJ := by obtain ⟨c, A, r⟩ := F; exact ⟨c, A.ext E, r⟩
theorem JA.other (F : JA Z h b n fJ) (W : Wr h h' a sl v) (q : b ≠ a) : JA Z h' b n fJ := by obtain ⟨c, A, r⟩ := F; exact ⟨c, A.other W q, r⟩
theorem JA.keep (F : JA Z h a n fJ) (K : Keep h h' wl) (q : a ∉ wl) : JA Z h' a n fJ := by obtain ⟨c, A, r⟩ := F; exact ⟨c, ⟨K.2.1 a c A.1 q, A.2⟩, r⟩
theorem JA.new {k : ClassId} {z : Int32} (A : Arr Z h a (newA k .long z) .long) (hz : z.toNatClampNeg = n) : JA Z h a n (fun _ => 0) := by
  refine ⟨_, A, by rw [sz_new, hz], fun j hj => ?_⟩
  have : j < z.toNatClampNeg := by rw [hz]; exact hj
  simp [newA, defaultValue, this]
theorem JA.set {c : Cell} (A : Arr Z h a c .long) (S : c.slots.size = n) (H : ∀ j, j < n → c.slots[j]? = some (.long (fJ j))) {x : Int64} {i : Nat} (W : Wr h h' a i (.long x)) (hi : i < n) : JA Z h' a n (updJ fJ i x) := by
  refine ⟨_, A.same W, by rw [sz_set, S], fun j hj => ?_⟩
  unfold updJ
  by_cases q : j = i
  · subst q; simp [Cell.setSlot, S, hi]
  · rw [if_neg q, ← H j hj]
    show (c.slots.setIfInBounds i (.long x))[j]? = _
    exact Array.getElem?_setIfInBounds_ne (Ne.symm q)
theorem stBA (X : Stand p l e R s m args below meth c T locs cells slots) (hx : p.tables.exec = Jvm.exec) (hZ : Z.Warmed39 s.vm) (eT : T.heap = h) (V : IA Z h a .byte n f) {j x : Int32} (hj : ¬ (j < 0 ∨ n ≤ j.toNatClampNeg)) {g : JFrame} (hg : g.method = m) {rest : List Value} (hs : g.stack = .int x :: .int j :: .ref a :: rest) (hd : decode c.code g.pc = .ok (.bastore, 1)) :
    ∃ T' h', Stand p l e R s m args below meth c T' (locs ++ [⟨a, j.toNatClampNeg⟩]) cells slots ∧ T'.heap = h' ∧ (∃ sl v, Wr h h' a sl v) ∧ IA Z h' a .byte n (upd f j.toNatClampNeg (nar .byte x)) ∧ ∀ target, Steps p.tables e below (T'.setTop { g with pc := g.pc + 1, stack := rest }) target → Steps p.tables e below (T.setTop g) target := by
  obtain ⟨cl, A, S, H⟩ := V
  obtain ⟨T', h', X', e', W, st⟩ := stB X hx hZ eT A (j := j) (x := x) (by rw [S]; exact hj) hg hs hd
  exact ⟨T', h', X', e', ⟨_, _, W⟩, IA.set A S H (fits_nar_byte _) W (Nat.lt_of_not_le fun q => hj (Or.inr q)), st⟩
theorem stIA (X : Stand p l e R s m args below meth c T locs cells slots) (hx : p.tables.exec = Jvm.exec) (hZ : Z.Warmed39 s.vm) (eT : T.heap = h) (V : IA Z h a .int n f) {j x : Int32} (hj : ¬ (j < 0 ∨ n ≤ j.toNatClampNeg)) {g : JFrame} (hg : g.method = m) {rest : List Value} (hs : g.stack = .int x :: .int j :: .ref a :: rest) (hd : decode c.code g.pc = .ok (.iastore, 1)) :
    ∃ T' h', Stand p l e R s m args below meth c T' (locs ++ [⟨a, j.toNatClampNeg⟩]) cells slots ∧ T'.heap = h' ∧ (∃ sl v, Wr h h' a sl v) ∧ IA Z h' a .int n (upd f j.toNatClampNeg x) ∧ ∀ target, Steps p.tables e below (T'.setTop { g with pc := g.pc + 1, stack := rest }) target → Steps p.tables e below (T.setTop g) target := by
  obtain ⟨cl, A, S, H⟩ := V
  obtain ⟨T', h', X', e', W, st⟩ := stI X hx hZ eT A (j := j) (x := x) (by rw [S]; exact hj) hg hs hd
  exact ⟨T', h', X', e', ⟨_, _, W⟩, IA.set A S H rfl W (Nat.lt_of_not_le fun q => hj (Or.inr q)), st⟩
theorem stJA (X : Stand p l e R s m args below meth c T locs cells slots) (hx : p.tables.exec = Jvm.exec) (hZ : Z.Warmed39 s.vm) (eT : T.heap = h) (V : JA Z h a n fJ) {j : Int32} {x : Int64} (hj : ¬ (j < 0 ∨ n ≤ j.toNatClampNeg)) {g : JFrame} (hg : g.method = m) {rest : List Value} (hs : g.stack = .long x :: .int j :: .ref a :: rest) (hd : decode c.code g.pc = .ok (.lastore, 1)) :
    ∃ T' h', Stand p l e R s m args below meth c T' (locs ++ [⟨a, j.toNatClampNeg⟩]) cells slots ∧ T'.heap = h' ∧ (∃ sl v, Wr h h' a sl v) ∧ JA Z h' a n (updJ fJ j.toNatClampNeg x) ∧ ∀ target, Steps p.tables e below (T'.setTop { g with pc := g.pc + 1, stack := rest }) target → Steps p.tables e below (T.setTop g) target := by
  obtain ⟨cl, A, S, H⟩ := V
  obtain ⟨T', h', X', e', W, st⟩ := stJ X hx hZ eT A (j := j) (x := x) (by rw [S]; exact hj) hg hs hd
  exact ⟨T', h', X', e', ⟨_, _, W⟩, JA.set A S H W (Nat.lt_of_not_le fun q => hj (Or.inr q)), st⟩
theorem ldBA (X : Stand p l e R s m args below meth c T locs cells slots) (hx : p.tables.exec = Jvm.exec) (hZ : Z.Warmed39 s.vm) (eT : T.heap = h) (V : IA Z h a .byte n f) {j : Int32} (hj : ¬ (j < 0 ∨ n ≤ j.toNatClampNeg)) {g : JFrame} (hg : g.method = m) {rest : List Value} (hs : g.stack = .int j :: .ref a :: rest) (hd : decode c.code g.pc = .ok (.baload, 1)) :
    ∀ target, Steps p.tables e below (T.setTop { g with pc := g.pc + 1, stack := .int (f j.toNatClampNeg) :: rest }) target → Steps p.tables e below (T.setTop g) target := by
  obtain ⟨cl, A, S, H⟩ := V
  exact X.baloadBytes hx (by rw [eT]; exact A.1) (State.isArrayOf_alike hZ.alike A.2.1) A.2.2 (by rw [S]; exact hj) (H _ (Nat.lt_of_not_le fun q => hj (Or.inr q))).1 hg hs hd
theorem ldIA (X : Stand p l e R s m args below meth c T locs cells slots) (hx : p.tables.exec = Jvm.exec) (hZ : Z.Warmed39 s.vm) (eT : T.heap = h) (V : IA Z h a .int n f) {j : Int32} (hj : ¬ (j < 0 ∨ n ≤ j.toNatClampNeg)) {g : JFrame} (hg : g.method = m) {rest : List Value} (hs : g.stack = .int j :: .ref a :: rest) (hd : decode c.code g.pc = .ok (.iaload, 1)) :
    ∀ target, Steps p.tables e below (T.setTop { g with pc := g.pc + 1, stack := .int (f j.toNatClampNeg) :: rest }) target → Steps p.tables e below (T.setTop g) target := by
  obtain ⟨cl, A, S, H⟩ := V
  exact X.iaload hx (by rw [eT]; exact A.1) (State.isArrayOf_alike hZ.alike A.2.1) A.2.2 (by rw [S]; exact hj) (H _ (Nat.lt_of_not_le fun q => hj (Or.inr q))).1 hg hs hd
theorem ldJA (X : Stand p l e R s m args below meth c T locs cells slots) (hx : p.tables.exec = Jvm.exec) (hZ : Z.Warmed39 s.vm) (eT : T.heap = h) (V : JA Z h a n fJ) {j : Int32} (hj : ¬ (j < 0 ∨ n ≤ j.toNatClampNeg)) {g : JFrame} (hg : g.method = m) {rest : List Value} (hs : g.stack = .int j :: .ref a :: rest) (hd : decode c.code g.pc = .ok (.laload, 1)) :
    ∀ target, Steps p.tables e below (T.setTop { g with pc := g.pc + 1, stack := .long (fJ j.toNatClampNeg) :: rest }) target → Steps p.tables e below (T.setTop g) target := by
  obtain ⟨cl, A, S, H⟩ := V
  exact X.laload hx (by rw [eT]; exact A.1) (State.isArrayOf_alike hZ.alike A.2.1) A.2.2 (by rw [S]; exact hj) (H _ (Nat.lt_of_not_le fun q => hj (Or.inr q))) hg hs hd
theorem lnIA (X : Stand p l e R s m args below meth c T locs cells slots) (hx : p.tables.exec = Jvm.exec) (hZ : Z.Warmed39 s.vm) (eT : T.heap = h) (V : IA Z h a ty n f) {z : Int32} (hz : n.toInt32 = z) {g : JFrame} (hg : g.method = m) {rest : List Value} (hs : g.stack = .ref a :: rest) (hd : decode c.code g.pc = .ok (.arraylength, 1)) :
    ∀ target, Steps p.tables e below (T.setTop { g with pc := g.pc + 1, stack := .int z :: rest }) target → Steps p.tables e below (T.setTop g) target := by
  obtain ⟨cl, A, S, H⟩ := V
  intro t k
  refine X.arraylength hx (by rw [eT]; exact A.1) (State.isArrayOf_alike hZ.alike A.2.1) hg hs hd t ?_
  rw [S, hz]; exact k
theorem lnJA (X : Stand p l e R s m args below meth c T locs cells slots) (hx : p.tables.exec = Jvm.exec) (hZ : Z.Warmed39 s.vm) (eT : T.heap = h) (V : JA Z h a n fJ) {z : Int32} (hz : n.toInt32 = z) {g : JFrame} (hg : g.method = m) {rest : List Value} (hs : g.stack = .ref a :: rest) (hd : decode c.code g.pc = .ok (.arraylength, 1)) :
    ∀ target, Steps p.tables e below (T.setTop { g with pc := g.pc + 1, stack := .int z :: rest }) target → Steps p.tables e below (T.setTop g) target := by
  obtain ⟨cl, A, S, H⟩ := V
  intro t k
  refine X.arraylength hx (by rw [eT]; exact A.1) (State.isArrayOf_alike hZ.alike A.2.1) hg hs hd t ?_
  rw [S, hz]; exact k
theorem retI (X : Stand p l e R s m args below meth c T locs cells slots) (hx : p.tables.exec = Jvm.exec) {pc : Nat} {Ls : Array Slot} {z : Int32} {rest : List Value} (hret : meth.sig.returnType = some .int) (hd : decode c.code pc = .ok (.ireturn, 1)) {fs : List Frame}
    (hl : ∀ (f : JFrame) (acts : List Action), f.method = m → f.locked = none → f.entered = [] → (doReturn e (T.setTop f) acts (some (.int z))).1 = T.setFrames fs) : Steps p.tables e below (T.setTop (mkF m pc Ls (.int z :: rest))) (T.setFrames fs) :=
  retOut X hx hret rfl (Or.inl ⟨rfl, Or.inl rfl, z, rfl⟩) hd hl
end Own
/-! numbers -/
theorem own_small {v : Int32} (n : Nat) (h0 : 0 ≤ v.toInt) (h1 : v.toInt < n) : ∃ k : Fin n, v = Int32.ofNat k.val := by
  refine ⟨⟨v.toInt.toNat, by omega⟩, ?_⟩
  apply Int32.toInt_inj.mp
  have := v.toInt_lt
  show v.toInt = (Int32.ofNat v.toInt.toNat).toInt
  rw [Int32.toInt_ofNat_of_lt (by omega)]
  omega
theorem own_mask31 (x : Int32) : 0 ≤ (x &&& (2147483647 : Int32)).toInt ∧ (x &&& (2147483647 : Int32)).toInt = x.toInt % 2147483648 := by
  have h : (x &&& (2147483647 : Int32)).toInt = x.toInt % (2 ^ 31 : Nat) := c_mask x 2147483647 31 (by decide) (by decide)
  omega
theorem own_mod (x : Int32) (d : Int32) (n : Nat) (hd : d.toInt = n) (hn : 0 < n) : ∃ k : Fin n, (x &&& (2147483647 : Int32)) % d = Int32.ofNat k.val := by
  apply own_small
  · rw [Int32.toInt_mod]; exact Int.tmod_nonneg _ (own_mask31 x).1
  · rw [Int32.toInt_mod, hd]; exact Int.tmod_lt_of_pos _ (by omega)
theorem own_ofNat_toInt {n : Nat} (h : n < 2147483648) : (Int32.ofNat n).toInt = n := Int32.toInt_ofNat_of_lt (by omega)
theorem own_ofNat_lt {a b : Nat} (ha : a < 2147483648) (hb : b < 2147483648) : Int32.ofNat a < Int32.ofNat b ↔ a < b := by
  rw [Int32.lt_iff_toInt_lt, own_ofNat_toInt ha, own_ofNat_toInt hb]; omega
theorem own_ofNat_nat {n : Nat} (h : n < 2147483648) : (Int32.ofNat n).toNatClampNeg = n := by
  show (Int32.ofNat n).toInt.toNat = n
  rw [own_ofNat_toInt h]; omega
theorem own_ofNat_in {n len : Nat} (h : n < len) (hl : len ≤ 2147483648) : ¬ (Int32.ofNat n < 0 ∨ len ≤ (Int32.ofNat n).toNatClampNeg) := by
  rw [own_ofNat_nat (by omega), Int32.lt_iff_toInt_lt, own_ofNat_toInt (by omega)]
  have e : (0 : Int32).toInt = 0 := by decide
  rw [e]; omega
theorem own_ofNat_succ (n : Nat) : Int32.ofNat n + 1 = Int32.ofNat (n + 1) := by rw [Int32.ofNat_add]; rfl
def QT (Z : State) (r0 : Addr) (h0 : Heap) (n0 : Nat) (v : Option Value) (h : Heap) (L : List Loc) : Prop := v = none ∧ Fr n0 L ∧ Keep h0 h [r0] ∧ Exa Z h r0 "com/example/lease/lease/engine/Task" ∧ Fld Z h r0 "com/example/lease/lease/engine/Task" "lapsesMs" "J" (.long (-9223372036854775808 : Int64))
theorem ini_d0 : decode prog_44_method_1_code 0 = .ok (.aload_n 0, 1) := by decide +kernel
theorem ini_d1 : decode prog_44_method_1_code 1 = .ok (.invokespecial 1, 3) := by decide +kernel
theorem ini_d4 : decode prog_44_method_1_code 4 = .ok (.aload_n 0, 1) := by decide +kernel
theorem ini_d5 : decode prog_44_method_1_code 5 = .ok (.ldc2_w 9, 3) := by decide +kernel
theorem ini_d8 : decode prog_44_method_1_code 8 = .ok (.putfield 11, 3) := by decide +kernel
theorem ini_d11 : decode prog_44_method_1_code 11 = .ok (.aload_n 0, 1) := by decide +kernel
theorem ini_d12 : decode prog_44_method_1_code 12 = .ok (.aload_n 1, 1) := by decide +kernel
theorem ini_d13 : decode prog_44_method_1_code 13 = .ok (.putfield 17, 3) := by decide +kernel
theorem ini_d16 : decode prog_44_method_1_code 16 = .ok (.aload_n 0, 1) := by decide +kernel
theorem ini_d17 : decode prog_44_method_1_code 17 = .ok (.aload_n 2, 1) := by decide +kernel
theorem ini_d18 : decode prog_44_method_1_code 18 = .ok (.putfield 21, 3) := by decide +kernel
theorem ini_d21 : decode prog_44_method_1_code 21 = .ok (.aload_n 0, 1) := by decide +kernel
theorem ini_d22 : decode prog_44_method_1_code 22 = .ok (.lload_n 3, 1) := by decide +kernel
theorem ini_d23 : decode prog_44_method_1_code 23 = .ok (.putfield 25, 3) := by decide +kernel
theorem ini_d26 : decode prog_44_method_1_code 26 = .ok (.return_, 1) := by decide +kernel
theorem ini_pn : plainName "com/example/lease/lease/engine/Task" = true := by first | (simp [plainName, overriddenIn]; done) | decide +kernel
theorem ini_ef (m : MethodId) (x0 : Addr) (x1 : Addr) (x2 : Addr) (x3 : Int64) : entryFrame m #[(.ref x0), (.ref x1), (.ref x2), (.long x3)] 5 = mkF m 0 #[.val (.ref x0), .val (.ref x1), .val (.ref x2), .val (.long x3), .second] [] := by first | (simp [entryFrame, mkF, argsToLocals, Value.category]; done) | rfl
set_option maxRecDepth 65536 in
set_option maxHeartbeats 40000000 in
theorem rm_ini (l : Launch) (Z : State) (a0 : Array Value) (hw : ∀ d ∈ tables_1, d.before a0 Z = true) (ws : List Jvm.Cond) (r0 : Addr) (r1 : Addr) (r2 : Addr) (q3 : Int64) (u0 u1 u2 u3 : Value) (h0 : Heap) (n0 : Nat) (Z0 : n0 ≤ h0.size) (E0 : Exa Z h0 r0 "com/example/lease/lease/engine/Task") (F_lapsesMs : Fld Z h0 r0 "com/example/lease/lease/engine/Task" "lapsesMs" "J" u0) (F_pid : Fld Z h0 r0 "com/example/lease/lease/engine/Task" "pid" "Ljava/lang/String;" u1) (F_data : Fld Z h0 r0 "com/example/lease/lease/engine/Task" "data" "[B" u2) (F_availableMs : Fld Z h0 r0 "com/example/lease/lease/engine/Task" "availableMs" "J" u3) (g0 : n0 ≤ r0) :
    MetFree l (⟨"com/example/lease/lease/engine/Task", "<init>", "(Ljava/lang/String;[BJ)V"⟩ : MethodName) (head1 (Jvm.Cond.code (⟨"com/example/lease/lease/engine/Task", "<init>", "(Ljava/lang/String;[BJ)V"⟩ : MethodName) prog_44_method_1_code 5 none :: ws) ({ frames := 1, cells := 0, slots := 0, locals := 12 } : Room)) (fun a U => a = #[(.ref r0), (.ref r1), (.ref r2), (.long q3)] ∧ Z.Warmed39 U.vm ∧ U.heap = h0) (fun _ _ _ _ _ => True) (fun _ U o U' => ∃ v L, o = .returned v ∧ QT Z r0 h0 n0 v U'.heap L ∧ FrameEnd U o U' L ({ frames := 1, cells := 0, slots := 0, locals := 12 } : Room).cells ({ frames := 1, cells := 0, slots := 0, locals := 12 } : Room).slots) := by
  refine MetFree.of_bodySF (plainFor_of_name ini_pn) hisR ?_
  intro p e s m args below meth c s₁ Bd hml0 hP hK
  obtain ⟨rfl, hZ, hh⟩ := hP
  have hx := Bd.exec
  have hby := Bd.bytes
  have hml : c.maxLocals = 5 := hml0
  have hown : s.vm.findClass "com/example/lease/lease/engine/Task" = some m.cls := findClass_of_methodNamed Bd.named
  have hnm := (name_of_methodNamed Bd.named Bd.method).1
  have X0 : Stand p l e ({ frames := 1, cells := 0, slots := 0, locals := 12 } : Room) s m #[(.ref r0), (.ref r1), (.ref r2), (.long q3)] below meth c s₁ [] 0 0 := Stand.of_body Bd
  have e0 : s₁.heap = h0 := by rw [← hh, Bd.state]; rfl
  have N0 := Fr.nil n0
  obtain ⟨P0, hP0⟩ : ∃ P0 : State → Prop, P0 = fun t => Steps p.tables e below (s₁.setTop (entryFrame m #[(.ref r0), (.ref r1), (.ref r2), (.long q3)] 5)) t := ⟨_, rfl⟩
  have K0 : ∀ t, Steps p.tables e below (s₁.setTop (mkF m 0 #[.val (.ref r0), .val (.ref r1), .val (.ref r2), .val (.long q3), .second] [])) t → P0 t := by
    intro t k; rw [hP0]; exact castTop (ini_ef m r0 r1 r2 q3) k
  obtain ⟨T1, X1, e1, st1⟩ := initO X0 hx hZ hown (hw _ (List.mem_of_getElem? (i := 14) rfl)) (hw _ (List.mem_of_getElem? (i := 15) rfl)) (hw _ (List.mem_of_getElem? (i := 16) rfl)) e0 (g := (mkF m 1 #[.val (.ref r0), .val (.ref r1), .val (.ref r2), .val (.long q3), .second] [(.ref r0)])) rfl (by rw [hml]; rfl) rfl (hb hby ini_d1) (by decide) (W := 0) (by show 2 * 0 + _ ≤ _; exact Nat.le_of_eq rfl) (by decide)
  obtain ⟨T2, h2, X2, e2, W2, st2⟩ := putF X1 hx hZ hown (host := "") (Or.inl (hw _ (List.mem_of_getElem? (i := 18) rfl))) Via.refl e1 F_lapsesMs E0 (Or.inl (hw _ (List.mem_of_getElem? (i := 19) rfl))) (hw _ (List.mem_of_getElem? (i := 1) rfl)) (ty := .long) (by decide) rfl rfl (g := (mkF m 8 #[.val (.ref r0), .val (.ref r1), .val (.ref r2), .val (.long q3), .second] [(.long (-9223372036854775808 : Int64)), (.ref r0)])) rfl rfl (hb hby ini_d8)
  have Z2 : n0 ≤ h2.size := Nat.le_trans Z0 (Keep.of_wr W2).1
  have N2 := Fr.snoc X2 N0 g0
  have F3 : Exa Z h2 r0 "com/example/lease/lease/engine/Task" := Exa.wr W2 E0
  have F4 : Fld Z h2 r0 "com/example/lease/lease/engine/Task" "pid" "Ljava/lang/String;" u1 := Fld.other W2 F_pid (Or.inr (slot_ne (Or.inr (hw _ (List.mem_of_getElem? (i := 21) rfl))) (Or.inl (hw _ (List.mem_of_getElem? (i := 19) rfl))) (by decide) (t := (.object "java/lang/String")) (t' := .long) (by decide) (by decide)))
  have F5 : Fld Z h2 r0 "com/example/lease/lease/engine/Task" "data" "[B" u2 := Fld.other W2 F_data (Or.inr (slot_ne (Or.inr (hw _ (List.mem_of_getElem? (i := 23) rfl))) (Or.inl (hw _ (List.mem_of_getElem? (i := 19) rfl))) (by decide) (t := (.array .byte)) (t' := .long) (by decide) (by decide)))
  have F6 : Fld Z h2 r0 "com/example/lease/lease/engine/Task" "availableMs" "J" u3 := Fld.other W2 F_availableMs (Or.inr (slot_ne (Or.inr (hw _ (List.mem_of_getElem? (i := 25) rfl))) (Or.inl (hw _ (List.mem_of_getElem? (i := 19) rfl))) (by decide) (t := .long) (t' := .long) (by decide) (by decide)))
  have Kp2 : Keep h0 h2 [r0] := (Keep.refl h0 [r0]).wr W2 (Or.inl (List.mem_of_getElem? (i := 0) rfl))
  have F7 : Fld Z h2 r0 "com/example/lease/lease/engine/Task" "lapsesMs" "J" (.long (-9223372036854775808 : Int64)) := Fld.same W2 F_lapsesMs
  obtain ⟨T8, h8, X8, e8, W8, st8⟩ := putF X2 hx hZ hown (host := "") (Or.inl (hw _ (List.mem_of_getElem? (i := 20) rfl))) Via.refl e2 F4 F3 (Or.inr ⟨(hw _ (List.mem_of_getElem? (i := 21) rfl)), rfl, hnm⟩) (hw _ (List.mem_of_getElem? (i := 1) rfl)) (ty := (.object "java/lang/String")) (by decide) rfl rfl (g := (mkF m 13 #[.val (.ref r0), .val (.ref r1), .val (.ref r2), .val (.long q3), .second] [(.ref r1), (.ref r0)])) rfl rfl (hb hby ini_d13)
  have Z8 : n0 ≤ h8.size := Nat.le_trans Z2 (Keep.of_wr W8).1
  have N8 := Fr.snoc X8 N2 g0
  have F9 : Exa Z h8 r0 "com/example/lease/lease/engine/Task" := Exa.wr W8 F3
  have F10 : Fld Z h8 r0 "com/example/lease/lease/engine/Task" "lapsesMs" "J" (.long (-9223372036854775808 : Int64)) := Fld.other W8 F7 (Or.inr (slot_ne (Or.inl (hw _ (List.mem_of_getElem? (i := 19) rfl))) (Or.inr (hw _ (List.mem_of_getElem? (i := 21) rfl))) (by decide) (t := .long) (t' := (.object "java/lang/String")) (by decide) (by decide)))
  have F11 : Fld Z h8 r0 "com/example/lease/lease/engine/Task" "data" "[B" u2 := Fld.other W8 F5 (Or.inr (slot_ne (Or.inr (hw _ (List.mem_of_getElem? (i := 23) rfl))) (Or.inr (hw _ (List.mem_of_getElem? (i := 21) rfl))) (by decide) (t := (.array .byte)) (t' := (.object "java/lang/String")) (by decide) (by decide)))
  have F12 : Fld Z h8 r0 "com/example/lease/lease/engine/Task" "availableMs" "J" u3 := Fld.other W8 F6 (Or.inr (slot_ne (Or.inr (hw _ (List.mem_of_getElem? (i := 25) rfl))) (Or.inr (hw _ (List.mem_of_getElem? (i := 21) rfl))) (by decide) (t := .long) (t' := (.object "java/lang/String")) (by decide) (by decide)))
  have Kp8 : Keep h0 h8 [r0] := Kp2.wr W8 (Or.inl (List.mem_of_getElem? (i := 0) rfl))
  have F13 : Fld Z h8 r0 "com/example/lease/lease/engine/Task" "pid" "Ljava/lang/String;" (.ref r1) := Fld.same W8 F4
  obtain ⟨T14, h14, X14, e14, W14, st14⟩ := putF X8 hx hZ hown (host := "") (Or.inl (hw _ (List.mem_of_getElem? (i := 22) rfl))) Via.refl e8 F11 F9 (Or.inr ⟨(hw _ (List.mem_of_getElem? (i := 23) rfl)), rfl, hnm⟩) (hw _ (List.mem_of_getElem? (i := 1) rfl)) (ty := (.array .byte)) (by decide) rfl rfl (g := (mkF m 18 #[.val (.ref r0), .val (.ref r1), .val (.ref r2), .val (.long q3), .second] [(.ref r2), (.ref r0)])) rfl rfl (hb hby ini_d18)
  have Z14 : n0 ≤ h14.size := Nat.le_trans Z8 (Keep.of_wr W14).1
  have N14 := Fr.snoc X14 N8 g0
  have F15 : Exa Z h14 r0 "com/example/lease/lease/engine/Task" := Exa.wr W14 F9
  have F16 : Fld Z h14 r0 "com/example/lease/lease/engine/Task" "lapsesMs" "J" (.long (-9223372036854775808 : Int64)) := Fld.other W14 F10 (Or.inr (slot_ne (Or.inl (hw _ (List.mem_of_getElem? (i := 19) rfl))) (Or.inr (hw _ (List.mem_of_getElem? (i := 23) rfl))) (by decide) (t := .long) (t' := (.array .byte)) (by decide) (by decide)))
  have F17 : Fld Z h14 r0 "com/example/lease/lease/engine/Task" "pid" "Ljava/lang/String;" (.ref r1) := Fld.other W14 F13 (Or.inr (slot_ne (Or.inr (hw _ (List.mem_of_getElem? (i := 21) rfl))) (Or.inr (hw _ (List.mem_of_getElem? (i := 23) rfl))) (by decide) (t := (.object "java/lang/String")) (t' := (.array .byte)) (by decide) (by decide)))
  have F18 : Fld Z h14 r0 "com/example/lease/lease/engine/Task" "availableMs" "J" u3 := Fld.other W14 F12 (Or.inr (slot_ne (Or.inr (hw _ (List.mem_of_getElem? (i := 25) rfl))) (Or.inr (hw _ (List.mem_of_getElem? (i := 23) rfl))) (by decide) (t := .long) (t' := (.array .byte)) (by decide) (by decide)))
  have Kp14 : Keep h0 h14 [r0] := Kp8.wr W14 (Or.inl (List.mem_of_getElem? (i := 0) rfl))
  have F19 : Fld Z h14 r0 "com/example/lease/lease/engine/Task" "data" "[B" (.ref r2) := Fld.same W14 F11
  obtain ⟨T20, h20, X20, e20, W20, st20⟩ := putF X14 hx hZ hown (host := "") (Or.inl (hw _ (List.mem_of_getElem? (i := 24) rfl))) Via.refl e14 F18 F15 (Or.inr ⟨(hw _ (List.mem_of_getElem? (i := 25) rfl)), rfl, hnm⟩) (hw _ (List.mem_of_getElem? (i := 1) rfl)) (ty := .long) (by decide) rfl rfl (g := (mkF m 23 #[.val (.ref r0), .val (.ref r1), .val (.ref r2), .val (.long q3), .second] [(.long q3), (.ref r0)])) rfl rfl (hb hby ini_d23)
  have Z20 : n0 ≤ h20.size := Nat.le_trans Z14 (Keep.of_wr W20).1
  have N20 := Fr.snoc X20 N14 g0
  have F21 : Exa Z h20 r0 "com/example/lease/lease/engine/Task" := Exa.wr W20 F15
  have F22 : Fld Z h20 r0 "com/example/lease/lease/engine/Task" "lapsesMs" "J" (.long (-9223372036854775808 : Int64)) := Fld.other W20 F16 (Or.inr (slot_ne (Or.inl (hw _ (List.mem_of_getElem? (i := 19) rfl))) (Or.inr (hw _ (List.mem_of_getElem? (i := 25) rfl))) (by decide) (t := .long) (t' := .long) (by decide) (by decide)))
  have F23 : Fld Z h20 r0 "com/example/lease/lease/engine/Task" "pid" "Ljava/lang/String;" (.ref r1) := Fld.other W20 F17 (Or.inr (slot_ne (Or.inr (hw _ (List.mem_of_getElem? (i := 21) rfl))) (Or.inr (hw _ (List.mem_of_getElem? (i := 25) rfl))) (by decide) (t := (.object "java/lang/String")) (t' := .long) (by decide) (by decide)))
  have F24 : Fld Z h20 r0 "com/example/lease/lease/engine/Task" "data" "[B" (.ref r2) := Fld.other W20 F19 (Or.inr (slot_ne (Or.inr (hw _ (List.mem_of_getElem? (i := 23) rfl))) (Or.inr (hw _ (List.mem_of_getElem? (i := 25) rfl))) (by decide) (t := (.array .byte)) (t' := .long) (by decide) (by decide)))
  have Kp20 : Keep h0 h20 [r0] := Kp14.wr W20 (Or.inl (List.mem_of_getElem? (i := 0) rfl))
  have F25 : Fld Z h20 r0 "com/example/lease/lease/engine/Task" "availableMs" "J" (.long q3) := Fld.same W20 F18
  have K26 : ∀ t, Steps p.tables e below (T20.setTop (mkF m 26 #[.val (.ref r0), .val (.ref r1), .val (.ref r2), .val (.long q3), .second] [])) t → P0 t := by
    intro t kt
    refine K0 t ?_
    show Steps p.tables e below (s₁.setTop (mkF m 0 #[.val (.ref r0), .val (.ref r1), .val (.ref r2), .val (.long q3), .second] [])) t
    refine XS.aloadN X0.here hx rfl (hb hby ini_d0) rfl rfl ?_
    show Steps p.tables e below (s₁.setTop (mkF m 1 #[.val (.ref r0), .val (.ref r1), .val (.ref r2), .val (.long q3), .second] [(.ref r0)])) t
    refine st1 _ ?_
    show Steps p.tables e below (T1.setTop (mkF m 4 #[.val (.ref r0), .val (.ref r1), .val (.ref r2), .val (.long q3), .second] [])) t
    refine XS.aloadN X1.here hx rfl (hb hby ini_d4) rfl rfl ?_
    show Steps p.tables e below (T1.setTop (mkF m 5 #[.val (.ref r0), .val (.ref r1), .val (.ref r2), .val (.long q3), .second] [(.ref r0)])) t
    refine X1.ldc2Long hx hown (mvT hZ (hw _ (List.mem_of_getElem? (i := 17) rfl))) (g := (mkF m 5 #[.val (.ref r0), .val (.ref r1), .val (.ref r2), .val (.long q3), .second] [(.ref r0)])) rfl (hb hby ini_d5) _ ?_
    show Steps p.tables e below (T1.setTop (mkF m 8 #[.val (.ref r0), .val (.ref r1), .val (.ref r2), .val (.long q3), .second] [(.long (-9223372036854775808 : Int64)), (.ref r0)])) t
    refine st2 _ ?_
    show Steps p.tables e below (T2.setTop (mkF m 11 #[.val (.ref r0), .val (.ref r1), .val (.ref r2), .val (.long q3), .second] [])) t
    refine XS.aloadN X2.here hx rfl (hb hby ini_d11) rfl rfl ?_
    show Steps p.tables e below (T2.setTop (mkF m 12 #[.val (.ref r0), .val (.ref r1), .val (.ref r2), .val (.long q3), .second] [(.ref r0)])) t
    refine XS.aloadN X2.here hx rfl (hb hby ini_d12) rfl rfl ?_
    show Steps p.tables e below (T2.setTop (mkF m 13 #[.val (.ref r0), .val (.ref r1), .val (.ref r2), .val (.long q3), .second] [(.ref r1), (.ref r0)])) t
    refine st8 _ ?_
    show Steps p.tables e below (T8.setTop (mkF m 16 #[.val (.ref r0), .val (.ref r1), .val (.ref r2), .val (.long q3), .second] [])) t
    refine XS.aloadN X8.here hx rfl (hb hby ini_d16) rfl rfl ?_
    show Steps p.tables e below (T8.setTop (mkF m 17 #[.val (.ref r0), .val (.ref r1), .val (.ref r2), .val (.long q3), .second] [(.ref r0)])) t
    refine XS.aloadN X8.here hx rfl (hb hby ini_d17) rfl rfl ?_
    show Steps p.tables e below (T8.setTop (mkF m 18 #[.val (.ref r0), .val (.ref r1), .val (.ref r2), .val (.long q3), .second] [(.ref r2), (.ref r0)])) t
    refine st14 _ ?_
    show Steps p.tables e below (T14.setTop (mkF m 21 #[.val (.ref r0), .val (.ref r1), .val (.ref r2), .val (.long q3), .second] [])) t
    refine XS.aloadN X14.here hx rfl (hb hby ini_d21) rfl rfl ?_
    show Steps p.tables e below (T14.setTop (mkF m 22 #[.val (.ref r0), .val (.ref r1), .val (.ref r2), .val (.long q3), .second] [(.ref r0)])) t
    refine XS.lloadN X14.here hx rfl (hb hby ini_d22) rfl ?_
    show Steps p.tables e below (T14.setTop (mkF m 23 #[.val (.ref r0), .val (.ref r1), .val (.ref r2), .val (.long q3), .second] [(.long q3), (.ref r0)])) t
    refine st20 _ ?_
    exact kt
  obtain ⟨fs, hr, hrun, hended, hW, hsame⟩ := X20.leave (v := none) (fun _ => rfl)
  refine ⟨_, _, ?_, hrun, hended, _, _, rfl, ?_, ⟨_, rfl⟩, hW, hsame.mono (by decide) (by decide)⟩
  · skip
    have q := K26 _ (X20.returnOut hx Bd.returns (hb hby ini_d26) hr)
    rw [hP0] at q; exact q
  · show QT Z r0 h0 n0 _ T20.heap _
    rw [e20]
    exact ⟨rfl, N20, Kp20, F21, F22⟩
theorem liv_d0 : decode prog_44_method_2_code 0 = .ok (.aload_n 0, 1) := by decide +kernel
theorem liv_d1 : decode prog_44_method_2_code 1 = .ok (.getfield 11, 3) := by decide +kernel
theorem liv_d4 : decode prog_44_method_2_code 4 = .ok (.lload_n 1, 1) := by decide +kernel
theorem liv_d5 : decode prog_44_method_2_code 5 = .ok (.lcmp, 1) := by decide +kernel
theorem liv_d6 : decode prog_44_method_2_code 6 = .ok (.ifCond .le 7, 3) := by decide +kernel
theorem liv_d9 : decode prog_44_method_2_code 9 = .ok (.iconst 1, 1) := by decide +kernel
theorem liv_d10 : decode prog_44_method_2_code 10 = .ok (.goto 4, 3) := by decide +kernel
theorem liv_d13 : decode prog_44_method_2_code 13 = .ok (.iconst 0, 1) := by decide +kernel
theorem liv_d14 : decode prog_44_method_2_code 14 = .ok (.ireturn, 1) := by decide +kernel
theorem liv_pn : plainName "com/example/lease/lease/engine/Task" = true := by first | (simp [plainName, overriddenIn]; done) | decide +kernel
theorem liv_ef (m : MethodId) (x0 : Addr) (x1 : Int64) : entryFrame m #[(.ref x0), (.long x1)] 3 = mkF m 0 #[.val (.ref x0), .val (.long x1), .second] [] := by first | (simp [entryFrame, mkF, argsToLocals, Value.category]; done) | rfl
def fLiv (q1 : Int64) (w : Int64) : Int32 :=
  let j14_s0 : Int32 := (if q1 < w then (1 : Int32) else (0 : Int32))
  (nar .boolean j14_s0)
set_option maxRecDepth 65536 in
set_option maxHeartbeats 40000000 in
theorem rm_liv (l : Launch) (Z : State) (a0 : Array Value) (hw : ∀ d ∈ tables_1, d.before a0 Z = true) (ws : List Jvm.Cond) (r0 : Addr) (q1 : Int64) (w : Int64) (h0 : Heap) (n0 : Nat) (Z0 : n0 ≤ h0.size) (F_l : Fld Z h0 r0 "com/example/lease/lease/engine/Task" "lapsesMs" "J" (.long w)) :
    MetFree l (⟨"com/example/lease/lease/engine/Task", "liveAt", "(J)Z"⟩ : MethodName) (head1 (Jvm.Cond.code (⟨"com/example/lease/lease/engine/Task", "liveAt", "(J)Z"⟩ : MethodName) prog_44_method_2_code 3 (some .boolean) :: ws) ({ frames := 0, cells := 0, slots := 0, locals := 0 } : Room)) (fun a U => a = #[(.ref r0), (.long q1)] ∧ Z.Warmed39 U.vm ∧ U.heap = h0) (fun _ _ _ _ _ => True) (fun _ U o U' => ∃ v L, o = .returned v ∧ QP (.int (fLiv q1 w)) h0 n0 v U'.heap L ∧ FrameEnd U o U' L ({ frames := 0, cells := 0, slots := 0, locals := 0 } : Room).cells ({ frames := 0, cells := 0, slots := 0, locals := 0 } : Room).slots) := by
  refine MetFree.of_bodySF (plainFor_of_name liv_pn) hisR ?_
  intro p e s m args below meth c s₁ Bd hml0 hP hK
  obtain ⟨rfl, hZ, hh⟩ := hP
  have hx := Bd.exec
  have hby := Bd.bytes
  have hml : c.maxLocals = 3 := hml0
  have hown : s.vm.findClass "com/example/lease/lease/engine/Task" = some m.cls := findClass_of_methodNamed Bd.named
  have hnm := (name_of_methodNamed Bd.named Bd.method).1
  have X0 : Stand p l e ({ frames := 0, cells := 0, slots := 0, locals := 0 } : Room) s m #[(.ref r0), (.long q1)] below meth c s₁ [] 0 0 := Stand.of_body Bd
  have e0 : s₁.heap = h0 := by rw [← hh, Bd.state]; rfl
  have N0 := Fr.nil n0
  obtain ⟨P0, hP0⟩ : ∃ P0 : State → Prop, P0 = fun t => Steps p.tables e below (s₁.setTop (entryFrame m #[(.ref r0), (.long q1)] 3)) t := ⟨_, rfl⟩
  have K0 : ∀ t, Steps p.tables e below (s₁.setTop (mkF m 0 #[.val (.ref r0), .val (.long q1), .second] [])) t → P0 t := by
    intro t k; rw [hP0]; exact castTop (liv_ef m r0 q1) k
  obtain ⟨T1, X1, e1, st1⟩ := getF X0 hx hZ hown (host := "") (Or.inl (hw _ (List.mem_of_getElem? (i := 18) rfl))) Via.refl e0 F_l (g := (mkF m 1 #[.val (.ref r0), .val (.long q1), .second] [(.ref r0)])) rfl rfl (hb hby liv_d1)
  have K2 : ∀ t, Steps p.tables e below (T1.setTop (mkF m 6 #[.val (.ref r0), .val (.long q1), .second] [(.int (lcmpW w q1))])) t → P0 t := by
    intro t kt
    refine K0 t ?_
    show Steps p.tables e below (s₁.setTop (mkF m 0 #[.val (.ref r0), .val (.long q1), .second] [])) t
    refine XS.aloadN X0.here hx rfl (hb hby liv_d0) rfl rfl ?_
    show Steps p.tables e below (s₁.setTop (mkF m 1 #[.val (.ref r0), .val (.long q1), .second] [(.ref r0)])) t
    refine st1 _ ?_
    show Steps p.tables e below (T1.setTop (mkF m 4 #[.val (.ref r0), .val (.long q1), .second] [(.long w)])) t
    refine XS.lloadN X1.here hx rfl (hb hby liv_d4) rfl ?_
    show Steps p.tables e below (T1.setTop (mkF m 5 #[.val (.ref r0), .val (.long q1), .second] [(.long q1), (.long w)])) t
    refine XS.lcmp X1.here hx rfl (hb hby liv_d5) rfl ?_
    exact kt
  obtain ⟨j14_s0, hj14_s0, K5⟩ : ∃ (j14_s0 : Int32), j14_s0 = (if q1 < w then (1 : Int32) else (0 : Int32)) ∧ ∀ t, Steps p.tables e below (T1.setTop (mkF m 14 #[.val (.ref r0), .val (.long q1), .second] [(.int j14_s0)])) t → P0 t := by
    by_cases hc6 : q1 < w
    · have K3 : ∀ t, Steps p.tables e below (T1.setTop (mkF m 14 #[.val (.ref r0), .val (.long q1), .second] [(.int (1 : Int32))])) t → P0 t := by
        intro t kt
        refine K2 t ?_
        show Steps p.tables e below (T1.setTop (mkF m 6 #[.val (.ref r0), .val (.long q1), .second] [(.int (lcmpW w q1))])) t
        refine XS.ifNo X1.here hx rfl (hb hby liv_d6) rfl ((if0 _ _).trans (tlt ((lw_gt w q1).mpr hc6)).2.2.2) ?_
        show Steps p.tables e below (T1.setTop (mkF m 9 #[.val (.ref r0), .val (.long q1), .second] [])) t
        refine XS.iconst X1.here hx rfl (hb hby liv_d9) ?_
        show Steps p.tables e below (T1.setTop (mkF m 10 #[.val (.ref r0), .val (.long q1), .second] [(.int (1 : Int32))])) t
        refine XS.goto X1.here hx rfl (pc0 := 10) (pc' := 14) rfl (hb hby liv_d10) (by decide) (by decide) ?_
        exact kt
      exact ⟨_, (if_pos hc6).symm, K3⟩
    · have K4 : ∀ t, Steps p.tables e below (T1.setTop (mkF m 14 #[.val (.ref r0), .val (.long q1), .second] [(.int (0 : Int32))])) t → P0 t := by
        intro t kt
        refine K2 t ?_
        show Steps p.tables e below (T1.setTop (mkF m 6 #[.val (.ref r0), .val (.long q1), .second] [(.int (lcmpW w q1))])) t
        refine XS.ifYes X1.here hx rfl (pc0 := 6) (pc' := 13) rfl (hb hby liv_d6) rfl ((if0 _ _).trans (flt (fun q => hc6 ((lw_gt w q1).mp q))).2.2.2) (by decide) (by decide) ?_
        show Steps p.tables e below (T1.setTop (mkF m 13 #[.val (.ref r0), .val (.long q1), .second] [])) t
        refine XS.iconst X1.here hx rfl (hb hby liv_d13) ?_
        exact kt
      exact ⟨_, (if_neg hc6).symm, K4⟩
  obtain ⟨fs, hr, hrun, hended, hW, hsame⟩ := X1.leave (v := some (.int (nar .boolean j14_s0))) (fun h => by rw [Bd.returns] at h; cases h)
  refine ⟨_, _, ?_, hrun, hended, _, _, rfl, ?_, ⟨_, rfl⟩, hW, hsame.mono (by decide) (by decide)⟩
  · skip
    have q := K5 _ (retN X1 hx (t := .boolean) Bd.returns (by simp) (hb hby liv_d14) hr)
    rw [hP0] at q; exact q
  · show QP (.int (fLiv q1 w)) h0 n0 _ T1.heap _
    rw [e1]
    subst hj14_s0
    exact ⟨rfl, N0, rfl⟩
theorem own_plain (q0 : Int64) (q1 : Int64) (q2 : Int64) (q3 : Int64) (f7 : Nat → Int32) (jx22 : Int32)
    (hf7 : f7 = (fun _ => (0 : Int32)))
    (hjx22 : jx22 = (if (fLiv q1 (-9223372036854775808 : Int64)) = (0 : Int32) then (if (fLiv (-9223372036854775808 : Int64) (-9223372036854775808 : Int64)) = (0 : Int32) then (if (fLiv (9223372036854775807 : Int64) (-9223372036854775808 : Int64)) = (0 : Int32) then (if (fLiv q0 q0) = (0 : Int32) then (if q0 = (-9223372036854775808 : Int64) then (if (if q2 < q1 then (fLiv q1 q0) else (fLiv q2 q0)) = (0 : Int32) then (if q0 = q0 then (1 : Int32) else (0 : Int32)) else (if (if q2 < q1 then (fLiv q2 q0) else (fLiv q1 q0)) = (0 : Int32) then (0 : Int32) else (if q0 = q0 then (1 : Int32) else (0 : Int32)))) else (if (fLiv (q0 - (1 : Int64)) q0) = (0 : Int32) then (0 : Int32) else (if (if q2 < q1 then (fLiv q1 q0) else (fLiv q2 q0)) = (0 : Int32) then (if q0 = q0 then (1 : Int32) else (0 : Int32)) else (if (if q2 < q1 then (fLiv q2 q0) else (fLiv q1 q0)) = (0 : Int32) then (0 : Int32) else (if q0 = q0 then (1 : Int32) else (0 : Int32)))))) else (0 : Int32)) else (0 : Int32)) else (0 : Int32)) else (0 : Int32))) :
    jx22 = 1 := by
  have L : ∀ x w : Int64, (fLiv x w = 0) ↔ ¬ x < w := by
    intro x w
    simp only [fLiv]
    by_cases h : x < w
    · rw [if_pos h]
      exact ⟨fun q => absurd q (by decide), fun q => absurd h q⟩
    · rw [if_neg h]
      exact ⟨fun _ => h, fun _ => by decide⟩
  have em : (-9223372036854775808 : Int64).toInt = -9223372036854775808 := by decide
  have mn : ∀ x : Int64, ¬ x < (-9223372036854775808 : Int64) := by
    intro x; rw [Int64.lt_iff_toInt_lt, em]; have := rng64 x; omega
  have self : ¬ q0 < q0 := by rw [Int64.lt_iff_toInt_lt]; omega
  have R : (if (if q2 < q1 then (fLiv q1 q0) else (fLiv q2 q0)) = (0 : Int32) then (if q0 = q0 then (1 : Int32) else (0 : Int32)) else (if (if q2 < q1 then (fLiv q2 q0) else (fLiv q1 q0)) = (0 : Int32) then (0 : Int32) else (if q0 = q0 then (1 : Int32) else (0 : Int32)))) = 1 := by
    rw [if_pos rfl]
    by_cases c : q2 < q1
    · rw [if_pos c, if_pos c]
      by_cases d : q1 < q0
      · rw [if_neg (fun z => (L _ _).mp z d)]
        have : q2 < q0 := by rw [Int64.lt_iff_toInt_lt] at c d ⊢; omega
        rw [if_neg (fun z => (L _ _).mp z this)]
      · rw [if_pos ((L _ _).mpr d)]
    · rw [if_neg c, if_neg c]
      by_cases d : q2 < q0
      · rw [if_neg (fun z => (L _ _).mp z d)]
        have : q1 < q0 := by rw [Int64.lt_iff_toInt_lt] at c d ⊢; omega
        rw [if_neg (fun z => (L _ _).mp z this)]
      · rw [if_pos ((L _ _).mpr d)]
  rw [hjx22, if_pos ((L _ _).mpr (mn _)), if_pos ((L _ _).mpr (mn _)), if_pos ((L _ _).mpr (mn _)), if_pos ((L _ _).mpr self)]
  by_cases e : q0 = (-9223372036854775808 : Int64)
  · rw [if_pos e]; exact R
  · rw [if_neg e]
    have lt : (q0 - (1 : Int64)) < q0 := by
      have h := c_lsub q0 1; have r := rng64 (q0 - 1); have r2 := rng64 q0
      have e1 : (1 : Int64).toInt = 1 := by decide
      have ne : q0.toInt ≠ -9223372036854775808 := fun z => e (Int64.toInt_inj.mp (by rw [z, em]))
      rw [e1] at h
      rw [Int64.lt_iff_toInt_lt]; omega
    rw [if_neg (fun z => (L _ _).mp z lt)]; exact R
theorem law_pn : plainName "com/example/lease/lease/engine/TaskLiveAtPinLaw" = true := by first | (simp [plainName, overriddenIn]; done) | decide +kernel
theorem law_pd0 : parseMethodDescriptor "(Ljava/lang/String;[BJ)V" = some ⟨[(.object "java/lang/String"), (.array .byte), .long], none⟩ := by decide +kernel
theorem law_pd1 : parseMethodDescriptor "(J)Z" = some ⟨[.long], some .boolean⟩ := by decide +kernel
theorem law_ef (m : MethodId) (x0 : Int64) (x1 : Int64) (x2 : Int64) (x3 : Int64) : entryFrame m #[(.long x0), (.long x1), (.long x2), (.long x3)] maxLocals = mkF m 0 #[.val (.long x0), .second, .val (.long x1), .second, .val (.long x2), .second, .val (.long x3), .second, .unset, .unset, .unset, .unset, .unset] [] := by first | (simp [entryFrame, mkF, argsToLocals, Value.category, maxLocals]; done) | rfl
set_option maxRecDepth 65536 in
set_option maxHeartbeats 40000000 in
theorem rm_law (l : Launch) (Z : State) (a0 : Array Value) (hw : ∀ d ∈ tables_1, d.before a0 Z = true) (ws : List Jvm.Cond) (q0 : Int64) (q1 : Int64) (q2 : Int64) (q3 : Int64) (h0 : Heap) (n0 : Nat) (Z0 : n0 ≤ h0.size) :
    MetFree l x (head1 (Jvm.Cond.code x code maxLocals ret :: ws) room_1) (fun a U => a = #[(.long q0), (.long q1), (.long q2), (.long q3)] ∧ Z.Warmed39 U.vm ∧ U.heap = h0) (fun _ _ _ _ _ => True) (fun _ U o U' => ∃ v L, o = .returned v ∧ QL n0 v U'.heap L ∧ ReturnedEndW U o U' L room_1.cells room_1.slots) := by
  refine MetFree.of_bodySF (plainFor_of_name law_pn) hisR ?_
  intro p e s m args below meth c s₁ Bd hml0 hP hK
  obtain ⟨rfl, hZ, hh⟩ := hP
  have hx := Bd.exec
  have hby := Bd.bytes
  have hml : c.maxLocals = 13 := hml0
  have hown : s.vm.findClass "com/example/lease/lease/engine/TaskLiveAtPinLaw" = some m.cls := findClass_of_methodNamed Bd.named
  have hnm := (name_of_methodNamed Bd.named Bd.method).1
  have X0 : Stand p l e room_1 s m #[(.long q0), (.long q1), (.long q2), (.long q3)] below meth c s₁ [] 0 0 := Stand.of_body Bd
  have e0 : s₁.heap = h0 := by rw [← hh, Bd.state]; rfl
  have N0 := Fr.nil n0
  have hstr : ∀ d ∈ Bundle.stringAtoms, d.before a0 Z = true := by
    intro d hd
    simp only [Bundle.stringAtoms, List.mem_cons, List.not_mem_nil, or_false] at hd
    rcases hd with rfl | rfl | rfl | rfl | rfl | rfl | rfl
    · exact (hw _ (List.mem_of_getElem? (i := 4) rfl))
    · exact (hw _ (List.mem_of_getElem? (i := 5) rfl))
    · exact (hw _ (List.mem_of_getElem? (i := 6) rfl))
    · exact (hw _ (List.mem_of_getElem? (i := 7) rfl))
    · exact (hw _ (List.mem_of_getElem? (i := 8) rfl))
    · exact (hw _ (List.mem_of_getElem? (i := 9) rfl))
    · exact (hw _ (List.mem_of_getElem? (i := 10) rfl))
  obtain ⟨P0, hP0⟩ : ∃ P0 : State → Prop, P0 = fun t => Steps p.tables e below (s₁.setTop (entryFrame m #[(.long q0), (.long q1), (.long q2), (.long q3)] maxLocals)) t := ⟨_, rfl⟩
  have K0 : ∀ t, Steps p.tables e below (s₁.setTop (mkF m 0 #[.val (.long q0), .second, .val (.long q1), .second, .val (.long q2), .second, .val (.long q3), .second, .unset, .unset, .unset, .unset, .unset] [])) t → P0 t := by
    intro t k; rw [hP0]; exact castTop (law_ef m q0 q1 q2 q3) k
  obtain ⟨T1, h1, X1, e1, E1, A1, D1, -, st1⟩ := newO X0 hx hZ hown (hw _ (List.mem_of_getElem? (i := 0) rfl)) (hw _ (List.mem_of_getElem? (i := 1) rfl)) (hw _ (List.mem_of_getElem? (i := 2) rfl)) e0 (g := (mkF m 0 #[.val (.long q0), .second, .val (.long q1), .second, .val (.long q2), .second, .val (.long q3), .second, .unset, .unset, .unset, .unset, .unset] [])) rfl (hb hby at_0) (by decide) (by decide)
  obtain ⟨b0, g1⟩ : ∃ z, z = h0.size := ⟨_, rfl⟩
  have g_b0 : n0 ≤ b0 := Nat.le_trans Z0 (Nat.le_of_eq g1.symm)
  rw [← g1] at A1 D1 st1
  have Z1 : n0 ≤ h1.size := Nat.le_trans Z0 E1.1
  have F2 : Fld Z h1 b0 "com/example/lease/lease/engine/Task" "lapsesMs" "J" (.long (0 : Int64)) := D1 (Or.inl (hw _ (List.mem_of_getElem? (i := 19) rfl))) (ty := .long) (by decide)
  have F3 : Fld Z h1 b0 "com/example/lease/lease/engine/Task" "pid" "Ljava/lang/String;" .null := D1 (Or.inr (hw _ (List.mem_of_getElem? (i := 21) rfl))) (ty := (.object "java/lang/String")) (by decide)
  have F4 : Fld Z h1 b0 "com/example/lease/lease/engine/Task" "data" "[B" .null := D1 (Or.inr (hw _ (List.mem_of_getElem? (i := 23) rfl))) (ty := (.array .byte)) (by decide)
  have F5 : Fld Z h1 b0 "com/example/lease/lease/engine/Task" "availableMs" "J" (.long (0 : Int64)) := D1 (Or.inr (hw _ (List.mem_of_getElem? (i := 25) rfl))) (ty := .long) (by decide)
  obtain ⟨lit4, T6, h6, k6, X6, e6, E6, hS6, hk6, hZ, hown, st6⟩ := ldcS (show Stand p l e room_1 (s.setVm s.vm) m #[(.long q0), (.long q1), (.long q2), (.long q3)] below meth c T1 _ _ _ from X1) hx hZ hown (hw _ (List.mem_of_getElem? (i := 3) rfl)) hstr e1 ((State.WarmedH.refl s).since n0) Z1 (g := (mkF m 4 #[.val (.long q0), .second, .val (.long q1), .second, .val (.long q2), .second, .val (.long q3), .second, .unset, .unset, .unset, .unset, .unset] [(.ref b0), (.ref b0)])) rfl (hb hby at_4) (n := 4) (by decide) (by decide) (by decide) (by decide)
  have Z6 : n0 ≤ h6.size := Nat.le_trans Z1 E6.1
  have F7 : Exa Z h6 b0 "com/example/lease/lease/engine/Task" := Exa.ext E6 A1
  have F8 : Fld Z h6 b0 "com/example/lease/lease/engine/Task" "lapsesMs" "J" (.long (0 : Int64)) := Fld.ext E6 F2
  have F9 : Fld Z h6 b0 "com/example/lease/lease/engine/Task" "pid" "Ljava/lang/String;" .null := Fld.ext E6 F3
  have F10 : Fld Z h6 b0 "com/example/lease/lease/engine/Task" "data" "[B" .null := Fld.ext E6 F4
  have F11 : Fld Z h6 b0 "com/example/lease/lease/engine/Task" "availableMs" "J" (.long (0 : Int64)) := Fld.ext E6 F5
  obtain ⟨T12, h12, k12, X12, e12, E12, A12, st12⟩ := newP X6 hx hZ (hw _ (List.mem_of_getElem? (i := 6) rfl)) e6 (g := (mkF m 7 #[.val (.long q0), .second, .val (.long q1), .second, .val (.long q2), .second, .val (.long q3), .second, .unset, .unset, .unset, .unset, .unset] [(.int (1 : Int32)), (.ref lit4), (.ref b0), (.ref b0)])) rfl (hb hby at_7) rfl (by decide) (cap := 1) (by decide) (by decide) (by decide) (by decide)
  obtain ⟨b7, g12⟩ : ∃ z, z = h6.size := ⟨_, rfl⟩
  have g_b7 : n0 ≤ b7 := Nat.le_trans Z6 (Nat.le_of_eq g12.symm)
  have ne_b0_b7 : b0 ≠ b7 := Nat.ne_of_lt (Nat.lt_of_lt_of_le F7.lt (Nat.le_of_eq g12.symm))
  rw [← g12] at A12 st12
  have Z12 : n0 ≤ h12.size := Nat.le_trans Z6 E12.1
  have Y12 : k6 ≤ h12.size := Nat.le_trans hk6 E12.1
  have F13 : Exa Z h12 b0 "com/example/lease/lease/engine/Task" := Exa.ext E12 F7
  have F14 : Fld Z h12 b0 "com/example/lease/lease/engine/Task" "lapsesMs" "J" (.long (0 : Int64)) := Fld.ext E12 F8
  have F15 : Fld Z h12 b0 "com/example/lease/lease/engine/Task" "pid" "Ljava/lang/String;" .null := Fld.ext E12 F9
  have F16 : Fld Z h12 b0 "com/example/lease/lease/engine/Task" "data" "[B" .null := Fld.ext E12 F10
  have F17 : Fld Z h12 b0 "com/example/lease/lease/engine/Task" "availableMs" "J" (.long (0 : Int64)) := Fld.ext E12 F11
  obtain ⟨f7, hf7, V12⟩ : ∃ f7 : Nat → Int32, f7 = (fun _ => 0) ∧ IA Z h12 b7 .byte 1 f7 := ⟨_, rfl, IA.new A12 rfl rfl (by decide)⟩
  obtain ⟨_, _, ⟨T18, L18, k18, n18⟩, -, X18, ⟨Lc18, hQ18, l18, y18, z18⟩, st18⟩ := X12.specialBack hx (y := (⟨"com/example/lease/lease/engine/Task", "<init>", "(Ljava/lang/String;[BJ)V"⟩ : MethodName)) rfl hown (mvT hZ (hw _ (List.mem_of_getElem? (i := 11) rfl))) (mvT hZ (hw _ (List.mem_of_getElem? (i := 12) rfl))) (mvT hZ (hw _ (List.mem_of_getElem? (i := 13) rfl))) (by decide) (backOf (W := 1) (rm_ini l Z a0 hw [] b0 lit4 b7 q3 _ _ _ _ h12 n0 Z12 F13 F14 F15 F16 F17 g_b0) hZ (hw _ (List.mem_of_getElem? (i := 13) rfl)) (hw _ (List.mem_of_getElem? (i := 2) rfl)) (by decide) (by decide)) (g := (mkF m 11 #[.val (.long q0), .second, .val (.long q1), .second, .val (.long q2), .second, .val (.long q3), .second, .unset, .unset, .unset, .unset, .unset] [(.long q3), (.ref b7), (.ref lit4), (.ref b0), (.ref b0)])) rfl (by rw [hml]; rfl) (Steps.refl _) (a := b0) (argsL := [(.ref lit4), (.ref b7), (.long q3)]) (rest := [(.ref b0)]) (lenOf law_pd0 rfl) rfl (by show 2 * 0 + _ ≤ _; exact Nat.le_of_eq rfl) (hb hby at_11) (fun _ _ => ⟨rfl, e12, (by decide : 4 + 0 ≤ _), (by decide : 16 + 0 ≤ _)⟩)
  dsimp only [Pt.U, Pt.locs, Pt.cells, Pt.slots] at X18 l18 y18 z18 st18 hQ18
  subst l18 y18 z18
  obtain ⟨h18, e18⟩ : ∃ z, T18.heap = z := ⟨_, rfl⟩
  rw [e18] at hQ18
  obtain ⟨rfl, N18q, Kq18, F19, F20⟩ := hQ18
  have N18 := Fr.app N0 N18q
  have Z18 : n0 ≤ h18.size := Nat.le_trans Z12 Kq18.1
  have Y18 : k6 ≤ h18.size := Nat.le_trans Y12 Kq18.1
  have F21 : IA Z h18 b7 .byte 1 f7 := V12.keep Kq18 (ninS (Ne.symm ne_b0_b7) nin0)
  obtain ⟨cq22, kq22, q22a, q22b, q22c⟩ := isOf hZ e18 F19
  obtain ⟨_, _, ⟨T22, L22, k22, n22⟩, -, X22, ⟨Lc22, hQ22, l22, y22, z22⟩, st22⟩ := X18.virtualBack hx (y := (⟨"com/example/lease/lease/engine/Task", "liveAt", "(J)Z"⟩ : MethodName)) (z := (⟨"com/example/lease/lease/engine/Task", "liveAt", "(J)Z"⟩ : MethodName)) hown (mvT hZ (hw _ (List.mem_of_getElem? (i := 26) rfl))) (mvT hZ (hw _ (List.mem_of_getElem? (i := 27) rfl))) (notFace_of_selects (args := #[]) (mvT hZ (hw _ (List.mem_of_getElem? (i := 29) rfl)))) (mvT hZ (hw _ (List.mem_of_getElem? (i := 29) rfl))) (mvT hZ (hw _ (List.mem_of_getElem? (i := 28) rfl))) (by decide) (backOf (W := 0) (rm_liv l Z a0 hw [] b0 q1 (-9223372036854775808 : Int64) h18 n0 Z18 F20) hZ (hw _ (List.mem_of_getElem? (i := 30) rfl)) (hw _ (List.mem_of_getElem? (i := 2) rfl)) (by decide) (by decide)) q22a q22c (g := (mkF m 19 #[.val (.long q0), .second, .val (.long q1), .second, .val (.long q2), .second, .val (.long q3), .second, .val (.ref b0), .unset, .unset, .unset, .unset] [(.long q1), (.ref b0)])) rfl (by rw [hml]; rfl) (Steps.refl _) (argsL := [(.long q1)]) (rest := []) (lenOf law_pd1 rfl) rfl (by show 2 * 0 + _ ≤ _; exact Nat.le_of_eq rfl) (hb hby at_19) (fun _ _ => ⟨rfl, e18, (by decide : 4 + 0 ≤ _), (by decide : 16 + 0 ≤ _)⟩)
  dsimp only [Pt.U, Pt.locs, Pt.cells, Pt.slots] at X22 l22 y22 z22 st22 hQ22
  subst l22 y22 z22
  obtain ⟨rfl, N22q, e22⟩ := hQ22
  have N22 := Fr.app N18 N22q
  have K23 : ∀ t, Steps p.tables e below (T22.setTop (mkF m 22 #[.val (.long q0), .second, .val (.long q1), .second, .val (.long q2), .second, .val (.long q3), .second, .val (.ref b0), .unset, .unset, .unset, .unset] [(.int (fLiv q1 (-9223372036854775808 : Int64)))])) t → P0 t := by
    intro t kt
    refine K0 t ?_
    show Steps p.tables e below (s₁.setTop (mkF m 0 #[.val (.long q0), .second, .val (.long q1), .second, .val (.long q2), .second, .val (.long q3), .second, .unset, .unset, .unset, .unset, .unset] [])) t
    refine st1 _ ?_
    show Steps p.tables e below (T1.setTop (mkF m 3 #[.val (.long q0), .second, .val (.long q1), .second, .val (.long q2), .second, .val (.long q3), .second, .unset, .unset, .unset, .unset, .unset] [(.ref b0)])) t
    refine XS.dup X1.here hx rfl (hb hby at_3) rfl rfl ?_
    show Steps p.tables e below (T1.setTop (mkF m 4 #[.val (.long q0), .second, .val (.long q1), .second, .val (.long q2), .second, .val (.long q3), .second, .unset, .unset, .unset, .unset, .unset] [(.ref b0), (.ref b0)])) t
    refine st6 _ ?_
    show Steps p.tables e below (T6.setTop (mkF m 6 #[.val (.long q0), .second, .val (.long q1), .second, .val (.long q2), .second, .val (.long q3), .second, .unset, .unset, .unset, .unset, .unset] [(.ref lit4), (.ref b0), (.ref b0)])) t
    refine XS.iconst X6.here hx rfl (hb hby at_6) ?_
    show Steps p.tables e below (T6.setTop (mkF m 7 #[.val (.long q0), .second, .val (.long q1), .second, .val (.long q2), .second, .val (.long q3), .second, .unset, .unset, .unset, .unset, .unset] [(.int (1 : Int32)), (.ref lit4), (.ref b0), (.ref b0)])) t
    refine st12 _ ?_
    show Steps p.tables e below (T12.setTop (mkF m 9 #[.val (.long q0), .second, .val (.long q1), .second, .val (.long q2), .second, .val (.long q3), .second, .unset, .unset, .unset, .unset, .unset] [(.ref b7), (.ref lit4), (.ref b0), (.ref b0)])) t
    refine XS.lload X12.here hx rfl (hb hby at_9) rfl ?_
    show Steps p.tables e below (T12.setTop (mkF m 11 #[.val (.long q0), .second, .val (.long q1), .second, .val (.long q2), .second, .val (.long q3), .second, .unset, .unset, .unset, .unset, .unset] [(.long q3), (.ref b7), (.ref lit4), (.ref b0), (.ref b0)])) t
    refine st18.trans ?_
    show Steps p.tables e below (T18.setTop (mkF m 14 #[.val (.long q0), .second, .val (.long q1), .second, .val (.long q2), .second, .val (.long q3), .second, .unset, .unset, .unset, .unset, .unset] [(.ref b0)])) t
    refine XS.astore X18.here hx rfl (hb hby at_14) rfl rfl (l' := #[.val (.long q0), .second, .val (.long q1), .second, .val (.long q2), .second, .val (.long q3), .second, .val (.ref b0), .unset, .unset, .unset, .unset]) rfl ?_
    show Steps p.tables e below (T18.setTop (mkF m 16 #[.val (.long q0), .second, .val (.long q1), .second, .val (.long q2), .second, .val (.long q3), .second, .val (.ref b0), .unset, .unset, .unset, .unset] [])) t
    refine XS.aload X18.here hx rfl (hb hby at_16) rfl rfl ?_
    show Steps p.tables e below (T18.setTop (mkF m 18 #[.val (.long q0), .second, .val (.long q1), .second, .val (.long q2), .second, .val (.long q3), .second, .val (.ref b0), .unset, .unset, .unset, .unset] [(.ref b0)])) t
    refine XS.lloadN X18.here hx rfl (hb hby at_18) rfl ?_
    show Steps p.tables e below (T18.setTop (mkF m 19 #[.val (.long q0), .second, .val (.long q1), .second, .val (.long q2), .second, .val (.long q3), .second, .val (.ref b0), .unset, .unset, .unset, .unset] [(.long q1), (.ref b0)])) t
    refine st22.trans ?_
    exact kt
  obtain ⟨jx22, pcx22, Lx22, Sx22, T157, lc158, h156, hjx22, X159, e160, N161, Z162, Y163, hdx22, K164⟩ : ∃ (jx22 : Int32) (pcx22 : Nat) (Lx22 : Array Slot) (Sx22 : List Value) (T157 : State) (lc158 : List Loc) (h156 : Heap), jx22 = (if (fLiv q1 (-9223372036854775808 : Int64)) = (0 : Int32) then (if (fLiv (-9223372036854775808 : Int64) (-9223372036854775808 : Int64)) = (0 : Int32) then (if (fLiv (9223372036854775807 : Int64) (-9223372036854775808 : Int64)) = (0 : Int32) then (if (fLiv q0 q0) = (0 : Int32) then (if q0 = (-9223372036854775808 : Int64) then (if (if q2 < q1 then (fLiv q1 q0) else (fLiv q2 q0)) = (0 : Int32) then (if q0 = q0 then (1 : Int32) else (0 : Int32)) else (if (if q2 < q1 then (fLiv q2 q0) else (fLiv q1 q0)) = (0 : Int32) then (0 : Int32) else (if q0 = q0 then (1 : Int32) else (0 : Int32)))) else (if (fLiv (q0 - (1 : Int64)) q0) = (0 : Int32) then (0 : Int32) else (if (if q2 < q1 then (fLiv q1 q0) else (fLiv q2 q0)) = (0 : Int32) then (if q0 = q0 then (1 : Int32) else (0 : Int32)) else (if (if q2 < q1 then (fLiv q2 q0) else (fLiv q1 q0)) = (0 : Int32) then (0 : Int32) else (if q0 = q0 then (1 : Int32) else (0 : Int32)))))) else (0 : Int32)) else (0 : Int32)) else (0 : Int32)) else (0 : Int32)) ∧ Stand p l e room_1 (s.setVm T6.vm) m #[(.long q0), (.long q1), (.long q2), (.long q3)] below meth c T157 lc158 4 16 ∧ T157.heap = h156 ∧ Fr n0 lc158 ∧ n0 ≤ h156.size ∧ k6 ≤ h156.size ∧ decode c.code pcx22 = .ok (.ireturn, 1) ∧ ∀ t, Steps p.tables e below (T157.setTop (mkF m pcx22 Lx22 ((.int jx22) :: Sx22))) t → P0 t := by
    by_cases hc22 : (fLiv q1 (-9223372036854775808 : Int64)) = (0 : Int32)
    · obtain ⟨cq24, kq24, q24a, q24b, q24c⟩ := isOf hZ e22 F19
      obtain ⟨_, _, ⟨T24, L24, k24, n24⟩, -, X24, ⟨Lc24, hQ24, l24, y24, z24⟩, st24⟩ := X22.virtualBack hx (y := (⟨"com/example/lease/lease/engine/Task", "liveAt", "(J)Z"⟩ : MethodName)) (z := (⟨"com/example/lease/lease/engine/Task", "liveAt", "(J)Z"⟩ : MethodName)) hown (mvT hZ (hw _ (List.mem_of_getElem? (i := 26) rfl))) (mvT hZ (hw _ (List.mem_of_getElem? (i := 27) rfl))) (notFace_of_selects (args := #[]) (mvT hZ (hw _ (List.mem_of_getElem? (i := 29) rfl)))) (mvT hZ (hw _ (List.mem_of_getElem? (i := 29) rfl))) (mvT hZ (hw _ (List.mem_of_getElem? (i := 28) rfl))) (by decide) (backOf (W := 0) (rm_liv l Z a0 hw [] b0 (-9223372036854775808 : Int64) (-9223372036854775808 : Int64) h18 n0 Z18 F20) hZ (hw _ (List.mem_of_getElem? (i := 30) rfl)) (hw _ (List.mem_of_getElem? (i := 2) rfl)) (by decide) (by decide)) q24a q24c (g := (mkF m 32 #[.val (.long q0), .second, .val (.long q1), .second, .val (.long q2), .second, .val (.long q3), .second, .val (.ref b0), .unset, .unset, .unset, .unset] [(.long (-9223372036854775808 : Int64)), (.ref b0)])) rfl (by rw [hml]; rfl) (Steps.refl _) (argsL := [(.long (-9223372036854775808 : Int64))]) (rest := []) (lenOf law_pd1 rfl) rfl (by show 2 * 0 + _ ≤ _; exact Nat.le_of_eq rfl) (hb hby at_32) (fun _ _ => ⟨rfl, e22, (by decide : 4 + 0 ≤ _), (by decide : 16 + 0 ≤ _)⟩)
      dsimp only [Pt.U, Pt.locs, Pt.cells, Pt.slots] at X24 l24 y24 z24 st24 hQ24
      subst l24 y24 z24
      obtain ⟨rfl, N24q, e24⟩ := hQ24
      have N24 := Fr.app N22 N24q
      have K25 : ∀ t, Steps p.tables e below (T24.setTop (mkF m 35 #[.val (.long q0), .second, .val (.long q1), .second, .val (.long q2), .second, .val (.long q3), .second, .val (.ref b0), .unset, .unset, .unset, .unset] [(.int (fLiv (-9223372036854775808 : Int64) (-9223372036854775808 : Int64)))])) t → P0 t := by
        intro t kt
        refine K23 t ?_
        show Steps p.tables e below (T22.setTop (mkF m 22 #[.val (.long q0), .second, .val (.long q1), .second, .val (.long q2), .second, .val (.long q3), .second, .val (.ref b0), .unset, .unset, .unset, .unset] [(.int (fLiv q1 (-9223372036854775808 : Int64)))])) t
        refine XS.ifYes X22.here hx rfl (pc0 := 22) (pc' := 27) rfl (hb hby at_22) rfl ((if0 _ _).trans (teq hc22).1) (by decide) (by decide) ?_
        show Steps p.tables e below (T22.setTop (mkF m 27 #[.val (.long q0), .second, .val (.long q1), .second, .val (.long q2), .second, .val (.long q3), .second, .val (.ref b0), .unset, .unset, .unset, .unset] [])) t
        refine XS.aload X22.here hx rfl (hb hby at_27) rfl rfl ?_
        show Steps p.tables e below (T22.setTop (mkF m 29 #[.val (.long q0), .second, .val (.long q1), .second, .val (.long q2), .second, .val (.long q3), .second, .val (.ref b0), .unset, .unset, .unset, .unset] [(.ref b0)])) t
        refine X22.ldc2Long hx hown (mvT hZ (hw _ (List.mem_of_getElem? (i := 31) rfl))) (g := (mkF m 29 #[.val (.long q0), .second, .val (.long q1), .second, .val (.long q2), .second, .val (.long q3), .second, .val (.ref b0), .unset, .unset, .unset, .unset] [(.ref b0)])) rfl (hb hby at_29) _ ?_
        show Steps p.tables e below (T22.setTop (mkF m 32 #[.val (.long q0), .second, .val (.long q1), .second, .val (.long q2), .second, .val (.long q3), .second, .val (.ref b0), .unset, .unset, .unset, .unset] [(.long (-9223372036854775808 : Int64)), (.ref b0)])) t
        refine st24.trans ?_
        exact kt
      obtain ⟨jx35, pcx35, Lx35, Sx35, T147, lc148, h146, hjx35, X149, e150, N151, Z152, Y153, hdx35, K154⟩ : ∃ (jx35 : Int32) (pcx35 : Nat) (Lx35 : Array Slot) (Sx35 : List Value) (T147 : State) (lc148 : List Loc) (h146 : Heap), jx35 = (if (fLiv (-9223372036854775808 : Int64) (-9223372036854775808 : Int64)) = (0 : Int32) then (if (fLiv (9223372036854775807 : Int64) (-9223372036854775808 : Int64)) = (0 : Int32) then (if (fLiv q0 q0) = (0 : Int32) then (if q0 = (-9223372036854775808 : Int64) then (if (if q2 < q1 then (fLiv q1 q0) else (fLiv q2 q0)) = (0 : Int32) then (if q0 = q0 then (1 : Int32) else (0 : Int32)) else (if (if q2 < q1 then (fLiv q2 q0) else (fLiv q1 q0)) = (0 : Int32) then (0 : Int32) else (if q0 = q0 then (1 : Int32) else (0 : Int32)))) else (if (fLiv (q0 - (1 : Int64)) q0) = (0 : Int32) then (0 : Int32) else (if (if q2 < q1 then (fLiv q1 q0) else (fLiv q2 q0)) = (0 : Int32) then (if q0 = q0 then (1 : Int32) else (0 : Int32)) else (if (if q2 < q1 then (fLiv q2 q0) else (fLiv q1 q0)) = (0 : Int32) then (0 : Int32) else (if q0 = q0 then (1 : Int32) else (0 : Int32)))))) else (0 : Int32)) else (0 : Int32)) else (0 : Int32)) ∧ Stand p l e room_1 (s.setVm T6.vm) m #[(.long q0), (.long q1), (.long q2), (.long q3)] below meth c T147 lc148 4 16 ∧ T147.heap = h146 ∧ Fr n0 lc148 ∧ n0 ≤ h146.size ∧ k6 ≤ h146.size ∧ decode c.code pcx35 = .ok (.ireturn, 1) ∧ ∀ t, Steps p.tables e below (T147.setTop (mkF m pcx35 Lx35 ((.int jx35) :: Sx35))) t → P0 t := by
        by_cases hc35 : (fLiv (-9223372036854775808 : Int64) (-9223372036854775808 : Int64)) = (0 : Int32)
        · obtain ⟨cq26, kq26, q26a, q26b, q26c⟩ := isOf hZ e24 F19
          obtain ⟨_, _, ⟨T26, L26, k26, n26⟩, -, X26, ⟨Lc26, hQ26, l26, y26, z26⟩, st26⟩ := X24.virtualBack hx (y := (⟨"com/example/lease/lease/engine/Task", "liveAt", "(J)Z"⟩ : MethodName)) (z := (⟨"com/example/lease/lease/engine/Task", "liveAt", "(J)Z"⟩ : MethodName)) hown (mvT hZ (hw _ (List.mem_of_getElem? (i := 26) rfl))) (mvT hZ (hw _ (List.mem_of_getElem? (i := 27) rfl))) (notFace_of_selects (args := #[]) (mvT hZ (hw _ (List.mem_of_getElem? (i := 29) rfl)))) (mvT hZ (hw _ (List.mem_of_getElem? (i := 29) rfl))) (mvT hZ (hw _ (List.mem_of_getElem? (i := 28) rfl))) (by decide) (backOf (W := 0) (rm_liv l Z a0 hw [] b0 (9223372036854775807 : Int64) (-9223372036854775808 : Int64) h18 n0 Z18 F20) hZ (hw _ (List.mem_of_getElem? (i := 30) rfl)) (hw _ (List.mem_of_getElem? (i := 2) rfl)) (by decide) (by decide)) q26a q26c (g := (mkF m 45 #[.val (.long q0), .second, .val (.long q1), .second, .val (.long q2), .second, .val (.long q3), .second, .val (.ref b0), .unset, .unset, .unset, .unset] [(.long (9223372036854775807 : Int64)), (.ref b0)])) rfl (by rw [hml]; rfl) (Steps.refl _) (argsL := [(.long (9223372036854775807 : Int64))]) (rest := []) (lenOf law_pd1 rfl) rfl (by show 2 * 0 + _ ≤ _; exact Nat.le_of_eq rfl) (hb hby at_45) (fun _ _ => ⟨rfl, e24, (by decide : 4 + 0 ≤ _), (by decide : 16 + 0 ≤ _)⟩)
          dsimp only [Pt.U, Pt.locs, Pt.cells, Pt.slots] at X26 l26 y26 z26 st26 hQ26
          subst l26 y26 z26
          obtain ⟨rfl, N26q, e26⟩ := hQ26
          have N26 := Fr.app N24 N26q
          have K27 : ∀ t, Steps p.tables e below (T26.setTop (mkF m 48 #[.val (.long q0), .second, .val (.long q1), .second, .val (.long q2), .second, .val (.long q3), .second, .val (.ref b0), .unset, .unset, .unset, .unset] [(.int (fLiv (9223372036854775807 : Int64) (-9223372036854775808 : Int64)))])) t → P0 t := by
            intro t kt
            refine K25 t ?_
            show Steps p.tables e below (T24.setTop (mkF m 35 #[.val (.long q0), .second, .val (.long q1), .second, .val (.long q2), .second, .val (.long q3), .second, .val (.ref b0), .unset, .unset, .unset, .unset] [(.int (fLiv (-9223372036854775808 : Int64) (-9223372036854775808 : Int64)))])) t
            refine XS.ifYes X24.here hx rfl (pc0 := 35) (pc' := 40) rfl (hb hby at_35) rfl ((if0 _ _).trans (teq hc35).1) (by decide) (by decide) ?_
            show Steps p.tables e below (T24.setTop (mkF m 40 #[.val (.long q0), .second, .val (.long q1), .second, .val (.long q2), .second, .val (.long q3), .second, .val (.ref b0), .unset, .unset, .unset, .unset] [])) t
            refine XS.aload X24.here hx rfl (hb hby at_40) rfl rfl ?_
            show Steps p.tables e below (T24.setTop (mkF m 42 #[.val (.long q0), .second, .val (.long q1), .second, .val (.long q2), .second, .val (.long q3), .second, .val (.ref b0), .unset, .unset, .unset, .unset] [(.ref b0)])) t
            refine X24.ldc2Long hx hown (mvT hZ (hw _ (List.mem_of_getElem? (i := 32) rfl))) (g := (mkF m 42 #[.val (.long q0), .second, .val (.long q1), .second, .val (.long q2), .second, .val (.long q3), .second, .val (.ref b0), .unset, .unset, .unset, .unset] [(.ref b0)])) rfl (hb hby at_42) _ ?_
            show Steps p.tables e below (T24.setTop (mkF m 45 #[.val (.long q0), .second, .val (.long q1), .second, .val (.long q2), .second, .val (.long q3), .second, .val (.ref b0), .unset, .unset, .unset, .unset] [(.long (9223372036854775807 : Int64)), (.ref b0)])) t
            refine st26.trans ?_
            exact kt
          obtain ⟨jx48, pcx48, Lx48, Sx48, T137, lc138, h136, hjx48, X139, e140, N141, Z142, Y143, hdx48, K144⟩ : ∃ (jx48 : Int32) (pcx48 : Nat) (Lx48 : Array Slot) (Sx48 : List Value) (T137 : State) (lc138 : List Loc) (h136 : Heap), jx48 = (if (fLiv (9223372036854775807 : Int64) (-9223372036854775808 : Int64)) = (0 : Int32) then (if (fLiv q0 q0) = (0 : Int32) then (if q0 = (-9223372036854775808 : Int64) then (if (if q2 < q1 then (fLiv q1 q0) else (fLiv q2 q0)) = (0 : Int32) then (if q0 = q0 then (1 : Int32) else (0 : Int32)) else (if (if q2 < q1 then (fLiv q2 q0) else (fLiv q1 q0)) = (0 : Int32) then (0 : Int32) else (if q0 = q0 then (1 : Int32) else (0 : Int32)))) else (if (fLiv (q0 - (1 : Int64)) q0) = (0 : Int32) then (0 : Int32) else (if (if q2 < q1 then (fLiv q1 q0) else (fLiv q2 q0)) = (0 : Int32) then (if q0 = q0 then (1 : Int32) else (0 : Int32)) else (if (if q2 < q1 then (fLiv q2 q0) else (fLiv q1 q0)) = (0 : Int32) then (0 : Int32) else (if q0 = q0 then (1 : Int32) else (0 : Int32)))))) else (0 : Int32)) else (0 : Int32)) ∧ Stand p l e room_1 (s.setVm T6.vm) m #[(.long q0), (.long q1), (.long q2), (.long q3)] below meth c T137 lc138 4 16 ∧ T137.heap = h136 ∧ Fr n0 lc138 ∧ n0 ≤ h136.size ∧ k6 ≤ h136.size ∧ decode c.code pcx48 = .ok (.ireturn, 1) ∧ ∀ t, Steps p.tables e below (T137.setTop (mkF m pcx48 Lx48 ((.int jx48) :: Sx48))) t → P0 t := by
            by_cases hc48 : (fLiv (9223372036854775807 : Int64) (-9223372036854775808 : Int64)) = (0 : Int32)
            · obtain ⟨T28, h28, X28, e28, W28, st28⟩ := putF X26 hx hZ hown (host := "") (Or.inl (hw _ (List.mem_of_getElem? (i := 33) rfl))) Via.refl e26 F20 F19 (Or.inl (hw _ (List.mem_of_getElem? (i := 19) rfl))) (hw _ (List.mem_of_getElem? (i := 1) rfl)) (ty := .long) (by decide) rfl rfl (g := (mkF m 56 #[.val (.long q0), .second, .val (.long q1), .second, .val (.long q2), .second, .val (.long q3), .second, .val (.ref b0), .unset, .unset, .unset, .unset] [(.long q0), (.ref b0)])) rfl rfl (hb hby at_56)
              have Z28 : n0 ≤ h28.size := Nat.le_trans Z18 (Keep.of_wr W28).1
              have Y28 : k6 ≤ h28.size := Nat.le_trans Y18 (Keep.of_wr W28).1
              have N28 := Fr.snoc X28 N26 g_b0
              have F29 : Exa Z h28 b0 "com/example/lease/lease/engine/Task" := Exa.wr W28 F19
              have F30 : IA Z h28 b7 .byte 1 f7 := F21.other W28 (Ne.symm ne_b0_b7)
              have F31 : Fld Z h28 b0 "com/example/lease/lease/engine/Task" "lapsesMs" "J" (.long q0) := Fld.same W28 F20
              obtain ⟨cq32, kq32, q32a, q32b, q32c⟩ := isOf hZ e28 F29
              obtain ⟨_, _, ⟨T32, L32, k32, n32⟩, -, X32, ⟨Lc32, hQ32, l32, y32, z32⟩, st32⟩ := X28.virtualBack hx (y := (⟨"com/example/lease/lease/engine/Task", "liveAt", "(J)Z"⟩ : MethodName)) (z := (⟨"com/example/lease/lease/engine/Task", "liveAt", "(J)Z"⟩ : MethodName)) hown (mvT hZ (hw _ (List.mem_of_getElem? (i := 26) rfl))) (mvT hZ (hw _ (List.mem_of_getElem? (i := 27) rfl))) (notFace_of_selects (args := #[]) (mvT hZ (hw _ (List.mem_of_getElem? (i := 29) rfl)))) (mvT hZ (hw _ (List.mem_of_getElem? (i := 29) rfl))) (mvT hZ (hw _ (List.mem_of_getElem? (i := 28) rfl))) (by decide) (backOf (W := 0) (rm_liv l Z a0 hw [] b0 q0 q0 h28 n0 Z28 F31) hZ (hw _ (List.mem_of_getElem? (i := 30) rfl)) (hw _ (List.mem_of_getElem? (i := 2) rfl)) (by decide) (by decide)) q32a q32c (g := (mkF m 62 #[.val (.long q0), .second, .val (.long q1), .second, .val (.long q2), .second, .val (.long q3), .second, .val (.ref b0), .unset, .unset, .unset, .unset] [(.long q0), (.ref b0)])) rfl (by rw [hml]; rfl) (Steps.refl _) (argsL := [(.long q0)]) (rest := []) (lenOf law_pd1 rfl) rfl (by show 2 * 0 + _ ≤ _; exact Nat.le_of_eq rfl) (hb hby at_62) (fun _ _ => ⟨rfl, e28, (by decide : 4 + 0 ≤ _), (by decide : 16 + 0 ≤ _)⟩)
              dsimp only [Pt.U, Pt.locs, Pt.cells, Pt.slots] at X32 l32 y32 z32 st32 hQ32
              subst l32 y32 z32
              obtain ⟨rfl, N32q, e32⟩ := hQ32
              have N32 := Fr.app N28 N32q
              have K33 : ∀ t, Steps p.tables e below (T32.setTop (mkF m 65 #[.val (.long q0), .second, .val (.long q1), .second, .val (.long q2), .second, .val (.long q3), .second, .val (.ref b0), .unset, .unset, .unset, .unset] [(.int (fLiv q0 q0))])) t → P0 t := by
                intro t kt
                refine K27 t ?_
                show Steps p.tables e below (T26.setTop (mkF m 48 #[.val (.long q0), .second, .val (.long q1), .second, .val (.long q2), .second, .val (.long q3), .second, .val (.ref b0), .unset, .unset, .unset, .unset] [(.int (fLiv (9223372036854775807 : Int64) (-9223372036854775808 : Int64)))])) t
                refine XS.ifYes X26.here hx rfl (pc0 := 48) (pc' := 53) rfl (hb hby at_48) rfl ((if0 _ _).trans (teq hc48).1) (by decide) (by decide) ?_
                show Steps p.tables e below (T26.setTop (mkF m 53 #[.val (.long q0), .second, .val (.long q1), .second, .val (.long q2), .second, .val (.long q3), .second, .val (.ref b0), .unset, .unset, .unset, .unset] [])) t
                refine XS.aload X26.here hx rfl (hb hby at_53) rfl rfl ?_
                show Steps p.tables e below (T26.setTop (mkF m 55 #[.val (.long q0), .second, .val (.long q1), .second, .val (.long q2), .second, .val (.long q3), .second, .val (.ref b0), .unset, .unset, .unset, .unset] [(.ref b0)])) t
                refine XS.lloadN X26.here hx rfl (hb hby at_55) rfl ?_
                show Steps p.tables e below (T26.setTop (mkF m 56 #[.val (.long q0), .second, .val (.long q1), .second, .val (.long q2), .second, .val (.long q3), .second, .val (.ref b0), .unset, .unset, .unset, .unset] [(.long q0), (.ref b0)])) t
                refine st28 _ ?_
                show Steps p.tables e below (T28.setTop (mkF m 59 #[.val (.long q0), .second, .val (.long q1), .second, .val (.long q2), .second, .val (.long q3), .second, .val (.ref b0), .unset, .unset, .unset, .unset] [])) t
                refine XS.aload X28.here hx rfl (hb hby at_59) rfl rfl ?_
                show Steps p.tables e below (T28.setTop (mkF m 61 #[.val (.long q0), .second, .val (.long q1), .second, .val (.long q2), .second, .val (.long q3), .second, .val (.ref b0), .unset, .unset, .unset, .unset] [(.ref b0)])) t
                refine XS.lloadN X28.here hx rfl (hb hby at_61) rfl ?_
                show Steps p.tables e below (T28.setTop (mkF m 62 #[.val (.long q0), .second, .val (.long q1), .second, .val (.long q2), .second, .val (.long q3), .second, .val (.ref b0), .unset, .unset, .unset, .unset] [(.long q0), (.ref b0)])) t
                refine st32.trans ?_
                exact kt
              obtain ⟨jx65, pcx65, Lx65, Sx65, T129, lc130, hjx65, X131, e132, N133, hdx65, K134⟩ : ∃ (jx65 : Int32) (pcx65 : Nat) (Lx65 : Array Slot) (Sx65 : List Value) (T129 : State) (lc130 : List Loc), jx65 = (if (fLiv q0 q0) = (0 : Int32) then (if q0 = (-9223372036854775808 : Int64) then (if (if q2 < q1 then (fLiv q1 q0) else (fLiv q2 q0)) = (0 : Int32) then (if q0 = q0 then (1 : Int32) else (0 : Int32)) else (if (if q2 < q1 then (fLiv q2 q0) else (fLiv q1 q0)) = (0 : Int32) then (0 : Int32) else (if q0 = q0 then (1 : Int32) else (0 : Int32)))) else (if (fLiv (q0 - (1 : Int64)) q0) = (0 : Int32) then (0 : Int32) else (if (if q2 < q1 then (fLiv q1 q0) else (fLiv q2 q0)) = (0 : Int32) then (if q0 = q0 then (1 : Int32) else (0 : Int32)) else (if (if q2 < q1 then (fLiv q2 q0) else (fLiv q1 q0)) = (0 : Int32) then (0 : Int32) else (if q0 = q0 then (1 : Int32) else (0 : Int32)))))) else (0 : Int32)) ∧ Stand p l e room_1 (s.setVm T6.vm) m #[(.long q0), (.long q1), (.long q2), (.long q3)] below meth c T129 lc130 4 16 ∧ T129.heap = h28 ∧ Fr n0 lc130 ∧ decode c.code pcx65 = .ok (.ireturn, 1) ∧ ∀ t, Steps p.tables e below (T129.setTop (mkF m pcx65 Lx65 ((.int jx65) :: Sx65))) t → P0 t := by
                by_cases hc65 : (fLiv q0 q0) = (0 : Int32)
                · have K34 : ∀ t, Steps p.tables e below (T32.setTop (mkF m 75 #[.val (.long q0), .second, .val (.long q1), .second, .val (.long q2), .second, .val (.long q3), .second, .val (.ref b0), .unset, .unset, .unset, .unset] [(.int (lcmpW q0 (-9223372036854775808 : Int64)))])) t → P0 t := by
                    intro t kt
                    refine K33 t ?_
                    show Steps p.tables e below (T32.setTop (mkF m 65 #[.val (.long q0), .second, .val (.long q1), .second, .val (.long q2), .second, .val (.long q3), .second, .val (.ref b0), .unset, .unset, .unset, .unset] [(.int (fLiv q0 q0))])) t
                    refine XS.ifYes X32.here hx rfl (pc0 := 65) (pc' := 70) rfl (hb hby at_65) rfl ((if0 _ _).trans (teq hc65).1) (by decide) (by decide) ?_
                    show Steps p.tables e below (T32.setTop (mkF m 70 #[.val (.long q0), .second, .val (.long q1), .second, .val (.long q2), .second, .val (.long q3), .second, .val (.ref b0), .unset, .unset, .unset, .unset] [])) t
                    refine XS.lloadN X32.here hx rfl (hb hby at_70) rfl ?_
                    show Steps p.tables e below (T32.setTop (mkF m 71 #[.val (.long q0), .second, .val (.long q1), .second, .val (.long q2), .second, .val (.long q3), .second, .val (.ref b0), .unset, .unset, .unset, .unset] [(.long q0)])) t
                    refine X32.ldc2Long hx hown (mvT hZ (hw _ (List.mem_of_getElem? (i := 31) rfl))) (g := (mkF m 71 #[.val (.long q0), .second, .val (.long q1), .second, .val (.long q2), .second, .val (.long q3), .second, .val (.ref b0), .unset, .unset, .unset, .unset] [(.long q0)])) rfl (hb hby at_71) _ ?_
                    show Steps p.tables e below (T32.setTop (mkF m 74 #[.val (.long q0), .second, .val (.long q1), .second, .val (.long q2), .second, .val (.long q3), .second, .val (.ref b0), .unset, .unset, .unset, .unset] [(.long (-9223372036854775808 : Int64)), (.long q0)])) t
                    refine XS.lcmp X32.here hx rfl (hb hby at_74) rfl ?_
                    exact kt
                  obtain ⟨jx75, pcx75, Lx75, Sx75, T122, lc123, hjx75, X124, e125, N126, hdx75, K127⟩ : ∃ (jx75 : Int32) (pcx75 : Nat) (Lx75 : Array Slot) (Sx75 : List Value) (T122 : State) (lc123 : List Loc), jx75 = (if q0 = (-9223372036854775808 : Int64) then (if (if q2 < q1 then (fLiv q1 q0) else (fLiv q2 q0)) = (0 : Int32) then (if q0 = q0 then (1 : Int32) else (0 : Int32)) else (if (if q2 < q1 then (fLiv q2 q0) else (fLiv q1 q0)) = (0 : Int32) then (0 : Int32) else (if q0 = q0 then (1 : Int32) else (0 : Int32)))) else (if (fLiv (q0 - (1 : Int64)) q0) = (0 : Int32) then (0 : Int32) else (if (if q2 < q1 then (fLiv q1 q0) else (fLiv q2 q0)) = (0 : Int32) then (if q0 = q0 then (1 : Int32) else (0 : Int32)) else (if (if q2 < q1 then (fLiv q2 q0) else (fLiv q1 q0)) = (0 : Int32) then (0 : Int32) else (if q0 = q0 then (1 : Int32) else (0 : Int32)))))) ∧ Stand p l e room_1 (s.setVm T6.vm) m #[(.long q0), (.long q1), (.long q2), (.long q3)] below meth c T122 lc123 4 16 ∧ T122.heap = h28 ∧ Fr n0 lc123 ∧ decode c.code pcx75 = .ok (.ireturn, 1) ∧ ∀ t, Steps p.tables e below (T122.setTop (mkF m pcx75 Lx75 ((.int jx75) :: Sx75))) t → P0 t := by
                    by_cases hc75 : q0 = (-9223372036854775808 : Int64)
                    · obtain ⟨cq35, kq35, q35a, q35b, q35c⟩ := isOf hZ e32 F29
                      obtain ⟨_, _, ⟨T35, L35, k35, n35⟩, -, X35, ⟨Lc35, hQ35, l35, y35, z35⟩, st35⟩ := X32.virtualBack hx (y := (⟨"com/example/lease/lease/engine/Task", "liveAt", "(J)Z"⟩ : MethodName)) (z := (⟨"com/example/lease/lease/engine/Task", "liveAt", "(J)Z"⟩ : MethodName)) hown (mvT hZ (hw _ (List.mem_of_getElem? (i := 26) rfl))) (mvT hZ (hw _ (List.mem_of_getElem? (i := 27) rfl))) (notFace_of_selects (args := #[]) (mvT hZ (hw _ (List.mem_of_getElem? (i := 29) rfl)))) (mvT hZ (hw _ (List.mem_of_getElem? (i := 29) rfl))) (mvT hZ (hw _ (List.mem_of_getElem? (i := 28) rfl))) (by decide) (backOf (W := 0) (rm_liv l Z a0 hw [] b0 q1 q0 h28 n0 Z28 F31) hZ (hw _ (List.mem_of_getElem? (i := 30) rfl)) (hw _ (List.mem_of_getElem? (i := 2) rfl)) (by decide) (by decide)) q35a q35c (g := (mkF m 94 #[.val (.long q0), .second, .val (.long q1), .second, .val (.long q2), .second, .val (.long q3), .second, .val (.ref b0), .unset, .unset, .unset, .unset] [(.long q1), (.ref b0)])) rfl (by rw [hml]; rfl) (Steps.refl _) (argsL := [(.long q1)]) (rest := []) (lenOf law_pd1 rfl) rfl (by show 2 * 0 + _ ≤ _; exact Nat.le_of_eq rfl) (hb hby at_94) (fun _ _ => ⟨rfl, e32, (by decide : 4 + 0 ≤ _), (by decide : 16 + 0 ≤ _)⟩)
                      dsimp only [Pt.U, Pt.locs, Pt.cells, Pt.slots] at X35 l35 y35 z35 st35 hQ35
                      subst l35 y35 z35
                      obtain ⟨rfl, N35q, e35⟩ := hQ35
                      have N35 := Fr.app N32 N35q
                      have K36 : ∀ t, Steps p.tables e below (T35.setTop (mkF m 99 #[.val (.long q0), .second, .val (.long q1), .second, .val (.long q2), .second, .val (.long q3), .second, .val (.ref b0), .val (.int (fLiv q1 q0)), .unset, .unset, .unset] [])) t → P0 t := by
                        intro t kt
                        refine K34 t ?_
                        show Steps p.tables e below (T32.setTop (mkF m 75 #[.val (.long q0), .second, .val (.long q1), .second, .val (.long q2), .second, .val (.long q3), .second, .val (.ref b0), .unset, .unset, .unset, .unset] [(.int (lcmpW q0 (-9223372036854775808 : Int64)))])) t
                        refine XS.ifYes X32.here hx rfl (pc0 := 75) (pc' := 91) rfl (hb hby at_75) rfl ((if0 _ _).trans (teq ((lw_eq q0 (-9223372036854775808 : Int64)).mpr hc75)).1) (by decide) (by decide) ?_
                        show Steps p.tables e below (T32.setTop (mkF m 91 #[.val (.long q0), .second, .val (.long q1), .second, .val (.long q2), .second, .val (.long q3), .second, .val (.ref b0), .unset, .unset, .unset, .unset] [])) t
                        refine XS.aload X32.here hx rfl (hb hby at_91) rfl rfl ?_
                        show Steps p.tables e below (T32.setTop (mkF m 93 #[.val (.long q0), .second, .val (.long q1), .second, .val (.long q2), .second, .val (.long q3), .second, .val (.ref b0), .unset, .unset, .unset, .unset] [(.ref b0)])) t
                        refine XS.lloadN X32.here hx rfl (hb hby at_93) rfl ?_
                        show Steps p.tables e below (T32.setTop (mkF m 94 #[.val (.long q0), .second, .val (.long q1), .second, .val (.long q2), .second, .val (.long q3), .second, .val (.ref b0), .unset, .unset, .unset, .unset] [(.long q1), (.ref b0)])) t
                        refine st35.trans ?_
                        show Steps p.tables e below (T35.setTop (mkF m 97 #[.val (.long q0), .second, .val (.long q1), .second, .val (.long q2), .second, .val (.long q3), .second, .val (.ref b0), .unset, .unset, .unset, .unset] [(.int (fLiv q1 q0))])) t
                        refine XS.istore X35.here hx rfl (hb hby at_97) rfl (l' := #[.val (.long q0), .second, .val (.long q1), .second, .val (.long q2), .second, .val (.long q3), .second, .val (.ref b0), .val (.int (fLiv q1 q0)), .unset, .unset, .unset]) rfl ?_
                        exact kt
                      obtain ⟨v97, hv97, K37⟩ : ∃ v97 : Int32, v97 = (fLiv q1 q0) ∧ ∀ t, Steps p.tables e below (T35.setTop (mkF m 99 #[.val (.long q0), .second, .val (.long q1), .second, .val (.long q2), .second, .val (.long q3), .second, .val (.ref b0), .val (.int v97), .unset, .unset, .unset] [])) t → P0 t := ⟨_, rfl, K36⟩
                      obtain ⟨cq38, kq38, q38a, q38b, q38c⟩ := isOf hZ e35 F29
                      obtain ⟨_, _, ⟨T38, L38, k38, n38⟩, -, X38, ⟨Lc38, hQ38, l38, y38, z38⟩, st38⟩ := X35.virtualBack hx (y := (⟨"com/example/lease/lease/engine/Task", "liveAt", "(J)Z"⟩ : MethodName)) (z := (⟨"com/example/lease/lease/engine/Task", "liveAt", "(J)Z"⟩ : MethodName)) hown (mvT hZ (hw _ (List.mem_of_getElem? (i := 26) rfl))) (mvT hZ (hw _ (List.mem_of_getElem? (i := 27) rfl))) (notFace_of_selects (args := #[]) (mvT hZ (hw _ (List.mem_of_getElem? (i := 29) rfl)))) (mvT hZ (hw _ (List.mem_of_getElem? (i := 29) rfl))) (mvT hZ (hw _ (List.mem_of_getElem? (i := 28) rfl))) (by decide) (backOf (W := 0) (rm_liv l Z a0 hw [] b0 q2 q0 h28 n0 Z28 F31) hZ (hw _ (List.mem_of_getElem? (i := 30) rfl)) (hw _ (List.mem_of_getElem? (i := 2) rfl)) (by decide) (by decide)) q38a q38c (g := (mkF m 103 #[.val (.long q0), .second, .val (.long q1), .second, .val (.long q2), .second, .val (.long q3), .second, .val (.ref b0), .val (.int v97), .unset, .unset, .unset] [(.long q2), (.ref b0)])) rfl (by rw [hml]; rfl) (Steps.refl _) (argsL := [(.long q2)]) (rest := []) (lenOf law_pd1 rfl) rfl (by show 2 * 0 + _ ≤ _; exact Nat.le_of_eq rfl) (hb hby at_103) (fun _ _ => ⟨rfl, e35, (by decide : 4 + 0 ≤ _), (by decide : 16 + 0 ≤ _)⟩)
                      dsimp only [Pt.U, Pt.locs, Pt.cells, Pt.slots] at X38 l38 y38 z38 st38 hQ38
                      subst l38 y38 z38
                      obtain ⟨rfl, N38q, e38⟩ := hQ38
                      have N38 := Fr.app N35 N38q
                      have K39 : ∀ t, Steps p.tables e below (T38.setTop (mkF m 108 #[.val (.long q0), .second, .val (.long q1), .second, .val (.long q2), .second, .val (.long q3), .second, .val (.ref b0), .val (.int v97), .val (.int (fLiv q2 q0)), .unset, .unset] [])) t → P0 t := by
                        intro t kt
                        refine K37 t ?_
                        show Steps p.tables e below (T35.setTop (mkF m 99 #[.val (.long q0), .second, .val (.long q1), .second, .val (.long q2), .second, .val (.long q3), .second, .val (.ref b0), .val (.int v97), .unset, .unset, .unset] [])) t
                        refine XS.aload X35.here hx rfl (hb hby at_99) rfl rfl ?_
                        show Steps p.tables e below (T35.setTop (mkF m 101 #[.val (.long q0), .second, .val (.long q1), .second, .val (.long q2), .second, .val (.long q3), .second, .val (.ref b0), .val (.int v97), .unset, .unset, .unset] [(.ref b0)])) t
                        refine XS.lload X35.here hx rfl (hb hby at_101) rfl ?_
                        show Steps p.tables e below (T35.setTop (mkF m 103 #[.val (.long q0), .second, .val (.long q1), .second, .val (.long q2), .second, .val (.long q3), .second, .val (.ref b0), .val (.int v97), .unset, .unset, .unset] [(.long q2), (.ref b0)])) t
                        refine st38.trans ?_
                        show Steps p.tables e below (T38.setTop (mkF m 106 #[.val (.long q0), .second, .val (.long q1), .second, .val (.long q2), .second, .val (.long q3), .second, .val (.ref b0), .val (.int v97), .unset, .unset, .unset] [(.int (fLiv q2 q0))])) t
                        refine XS.istore X38.here hx rfl (hb hby at_106) rfl (l' := #[.val (.long q0), .second, .val (.long q1), .second, .val (.long q2), .second, .val (.long q3), .second, .val (.ref b0), .val (.int v97), .val (.int (fLiv q2 q0)), .unset, .unset]) rfl ?_
                        exact kt
                      obtain ⟨v106, hv106, K40⟩ : ∃ v106 : Int32, v106 = (fLiv q2 q0) ∧ ∀ t, Steps p.tables e below (T38.setTop (mkF m 108 #[.val (.long q0), .second, .val (.long q1), .second, .val (.long q2), .second, .val (.long q3), .second, .val (.ref b0), .val (.int v97), .val (.int v106), .unset, .unset] [])) t → P0 t := ⟨_, rfl, K39⟩
                      have K41 : ∀ t, Steps p.tables e below (T38.setTop (mkF m 112 #[.val (.long q0), .second, .val (.long q1), .second, .val (.long q2), .second, .val (.long q3), .second, .val (.ref b0), .val (.int v97), .val (.int v106), .unset, .unset] [(.int (lcmpW q1 q2))])) t → P0 t := by
                        intro t kt
                        refine K40 t ?_
                        show Steps p.tables e below (T38.setTop (mkF m 108 #[.val (.long q0), .second, .val (.long q1), .second, .val (.long q2), .second, .val (.long q3), .second, .val (.ref b0), .val (.int v97), .val (.int v106), .unset, .unset] [])) t
                        refine XS.lloadN X38.here hx rfl (hb hby at_108) rfl ?_
                        show Steps p.tables e below (T38.setTop (mkF m 109 #[.val (.long q0), .second, .val (.long q1), .second, .val (.long q2), .second, .val (.long q3), .second, .val (.ref b0), .val (.int v97), .val (.int v106), .unset, .unset] [(.long q1)])) t
                        refine XS.lload X38.here hx rfl (hb hby at_109) rfl ?_
                        show Steps p.tables e below (T38.setTop (mkF m 111 #[.val (.long q0), .second, .val (.long q1), .second, .val (.long q2), .second, .val (.long q3), .second, .val (.ref b0), .val (.int v97), .val (.int v106), .unset, .unset] [(.long q2), (.long q1)])) t
                        refine XS.lcmp X38.here hx rfl (hb hby at_111) rfl ?_
                        exact kt
                      obtain ⟨j122_s0, hj122_s0, K44⟩ : ∃ (j122_s0 : Int32), j122_s0 = (if q2 < q1 then v106 else v97) ∧ ∀ t, Steps p.tables e below (T38.setTop (mkF m 122 #[.val (.long q0), .second, .val (.long q1), .second, .val (.long q2), .second, .val (.long q3), .second, .val (.ref b0), .val (.int v97), .val (.int v106), .unset, .unset] [(.int j122_s0)])) t → P0 t := by
                        by_cases hc112 : q2 < q1
                        · have K42 : ∀ t, Steps p.tables e below (T38.setTop (mkF m 122 #[.val (.long q0), .second, .val (.long q1), .second, .val (.long q2), .second, .val (.long q3), .second, .val (.ref b0), .val (.int v97), .val (.int v106), .unset, .unset] [(.int v106)])) t → P0 t := by
                            intro t kt
                            refine K41 t ?_
                            show Steps p.tables e below (T38.setTop (mkF m 112 #[.val (.long q0), .second, .val (.long q1), .second, .val (.long q2), .second, .val (.long q3), .second, .val (.ref b0), .val (.int v97), .val (.int v106), .unset, .unset] [(.int (lcmpW q1 q2))])) t
                            refine XS.ifYes X38.here hx rfl (pc0 := 112) (pc' := 120) rfl (hb hby at_112) rfl ((if0 _ _).trans (tlt ((lw_gt q1 q2).mpr hc112)).2.2.1) (by decide) (by decide) ?_
                            show Steps p.tables e below (T38.setTop (mkF m 120 #[.val (.long q0), .second, .val (.long q1), .second, .val (.long q2), .second, .val (.long q3), .second, .val (.ref b0), .val (.int v97), .val (.int v106), .unset, .unset] [])) t
                            refine XS.iload X38.here hx rfl (hb hby at_120) rfl ?_
                            exact kt
                          exact ⟨_, (if_pos hc112).symm, K42⟩
                        · have K43 : ∀ t, Steps p.tables e below (T38.setTop (mkF m 122 #[.val (.long q0), .second, .val (.long q1), .second, .val (.long q2), .second, .val (.long q3), .second, .val (.ref b0), .val (.int v97), .val (.int v106), .unset, .unset] [(.int v97)])) t → P0 t := by
                            intro t kt
                            refine K41 t ?_
                            show Steps p.tables e below (T38.setTop (mkF m 112 #[.val (.long q0), .second, .val (.long q1), .second, .val (.long q2), .second, .val (.long q3), .second, .val (.ref b0), .val (.int v97), .val (.int v106), .unset, .unset] [(.int (lcmpW q1 q2))])) t
                            refine XS.ifNo X38.here hx rfl (hb hby at_112) rfl ((if0 _ _).trans (flt (fun q => hc112 ((lw_gt q1 q2).mp q))).2.2.1) ?_
                            show Steps p.tables e below (T38.setTop (mkF m 115 #[.val (.long q0), .second, .val (.long q1), .second, .val (.long q2), .second, .val (.long q3), .second, .val (.ref b0), .val (.int v97), .val (.int v106), .unset, .unset] [])) t
                            refine XS.iload X38.here hx rfl (hb hby at_115) rfl ?_
                            show Steps p.tables e below (T38.setTop (mkF m 117 #[.val (.long q0), .second, .val (.long q1), .second, .val (.long q2), .second, .val (.long q3), .second, .val (.ref b0), .val (.int v97), .val (.int v106), .unset, .unset] [(.int v97)])) t
                            refine XS.goto X38.here hx rfl (pc0 := 117) (pc' := 122) rfl (hb hby at_117) (by decide) (by decide) ?_
                            exact kt
                          exact ⟨_, (if_neg hc112).symm, K43⟩
                      have K45 : ∀ t, Steps p.tables e below (T38.setTop (mkF m 128 #[.val (.long q0), .second, .val (.long q1), .second, .val (.long q2), .second, .val (.long q3), .second, .val (.ref b0), .val (.int v97), .val (.int v106), .val (.int j122_s0), .unset] [(.int (lcmpW q1 q2))])) t → P0 t := by
                        intro t kt
                        refine K44 t ?_
                        show Steps p.tables e below (T38.setTop (mkF m 122 #[.val (.long q0), .second, .val (.long q1), .second, .val (.long q2), .second, .val (.long q3), .second, .val (.ref b0), .val (.int v97), .val (.int v106), .unset, .unset] [(.int j122_s0)])) t
                        refine XS.istore X38.here hx rfl (hb hby at_122) rfl (l' := #[.val (.long q0), .second, .val (.long q1), .second, .val (.long q2), .second, .val (.long q3), .second, .val (.ref b0), .val (.int v97), .val (.int v106), .val (.int j122_s0), .unset]) rfl ?_
                        show Steps p.tables e below (T38.setTop (mkF m 124 #[.val (.long q0), .second, .val (.long q1), .second, .val (.long q2), .second, .val (.long q3), .second, .val (.ref b0), .val (.int v97), .val (.int v106), .val (.int j122_s0), .unset] [])) t
                        refine XS.lloadN X38.here hx rfl (hb hby at_124) rfl ?_
                        show Steps p.tables e below (T38.setTop (mkF m 125 #[.val (.long q0), .second, .val (.long q1), .second, .val (.long q2), .second, .val (.long q3), .second, .val (.ref b0), .val (.int v97), .val (.int v106), .val (.int j122_s0), .unset] [(.long q1)])) t
                        refine XS.lload X38.here hx rfl (hb hby at_125) rfl ?_
                        show Steps p.tables e below (T38.setTop (mkF m 127 #[.val (.long q0), .second, .val (.long q1), .second, .val (.long q2), .second, .val (.long q3), .second, .val (.ref b0), .val (.int v97), .val (.int v106), .val (.int j122_s0), .unset] [(.long q2), (.long q1)])) t
                        refine XS.lcmp X38.here hx rfl (hb hby at_127) rfl ?_
                        exact kt
                      obtain ⟨j138_s0, hj138_s0, K48⟩ : ∃ (j138_s0 : Int32), j138_s0 = (if q2 < q1 then v97 else v106) ∧ ∀ t, Steps p.tables e below (T38.setTop (mkF m 138 #[.val (.long q0), .second, .val (.long q1), .second, .val (.long q2), .second, .val (.long q3), .second, .val (.ref b0), .val (.int v97), .val (.int v106), .val (.int j122_s0), .unset] [(.int j138_s0)])) t → P0 t := by
                        by_cases hc128 : q2 < q1
                        · have K46 : ∀ t, Steps p.tables e below (T38.setTop (mkF m 138 #[.val (.long q0), .second, .val (.long q1), .second, .val (.long q2), .second, .val (.long q3), .second, .val (.ref b0), .val (.int v97), .val (.int v106), .val (.int j122_s0), .unset] [(.int v97)])) t → P0 t := by
                            intro t kt
                            refine K45 t ?_
                            show Steps p.tables e below (T38.setTop (mkF m 128 #[.val (.long q0), .second, .val (.long q1), .second, .val (.long q2), .second, .val (.long q3), .second, .val (.ref b0), .val (.int v97), .val (.int v106), .val (.int j122_s0), .unset] [(.int (lcmpW q1 q2))])) t
                            refine XS.ifYes X38.here hx rfl (pc0 := 128) (pc' := 136) rfl (hb hby at_128) rfl ((if0 _ _).trans (tlt ((lw_gt q1 q2).mpr hc128)).2.2.1) (by decide) (by decide) ?_
                            show Steps p.tables e below (T38.setTop (mkF m 136 #[.val (.long q0), .second, .val (.long q1), .second, .val (.long q2), .second, .val (.long q3), .second, .val (.ref b0), .val (.int v97), .val (.int v106), .val (.int j122_s0), .unset] [])) t
                            refine XS.iload X38.here hx rfl (hb hby at_136) rfl ?_
                            exact kt
                          exact ⟨_, (if_pos hc128).symm, K46⟩
                        · have K47 : ∀ t, Steps p.tables e below (T38.setTop (mkF m 138 #[.val (.long q0), .second, .val (.long q1), .second, .val (.long q2), .second, .val (.long q3), .second, .val (.ref b0), .val (.int v97), .val (.int v106), .val (.int j122_s0), .unset] [(.int v106)])) t → P0 t := by
                            intro t kt
                            refine K45 t ?_
                            show Steps p.tables e below (T38.setTop (mkF m 128 #[.val (.long q0), .second, .val (.long q1), .second, .val (.long q2), .second, .val (.long q3), .second, .val (.ref b0), .val (.int v97), .val (.int v106), .val (.int j122_s0), .unset] [(.int (lcmpW q1 q2))])) t
                            refine XS.ifNo X38.here hx rfl (hb hby at_128) rfl ((if0 _ _).trans (flt (fun q => hc128 ((lw_gt q1 q2).mp q))).2.2.1) ?_
                            show Steps p.tables e below (T38.setTop (mkF m 131 #[.val (.long q0), .second, .val (.long q1), .second, .val (.long q2), .second, .val (.long q3), .second, .val (.ref b0), .val (.int v97), .val (.int v106), .val (.int j122_s0), .unset] [])) t
                            refine XS.iload X38.here hx rfl (hb hby at_131) rfl ?_
                            show Steps p.tables e below (T38.setTop (mkF m 133 #[.val (.long q0), .second, .val (.long q1), .second, .val (.long q2), .second, .val (.long q3), .second, .val (.ref b0), .val (.int v97), .val (.int v106), .val (.int j122_s0), .unset] [(.int v106)])) t
                            refine XS.goto X38.here hx rfl (pc0 := 133) (pc' := 138) rfl (hb hby at_133) (by decide) (by decide) ?_
                            exact kt
                          exact ⟨_, (if_neg hc128).symm, K47⟩
                      have K49 : ∀ t, Steps p.tables e below (T38.setTop (mkF m 142 #[.val (.long q0), .second, .val (.long q1), .second, .val (.long q2), .second, .val (.long q3), .second, .val (.ref b0), .val (.int v97), .val (.int v106), .val (.int j122_s0), .val (.int j138_s0)] [(.int j138_s0)])) t → P0 t := by
                        intro t kt
                        refine K48 t ?_
                        show Steps p.tables e below (T38.setTop (mkF m 138 #[.val (.long q0), .second, .val (.long q1), .second, .val (.long q2), .second, .val (.long q3), .second, .val (.ref b0), .val (.int v97), .val (.int v106), .val (.int j122_s0), .unset] [(.int j138_s0)])) t
                        refine XS.istore X38.here hx rfl (hb hby at_138) rfl (l' := #[.val (.long q0), .second, .val (.long q1), .second, .val (.long q2), .second, .val (.long q3), .second, .val (.ref b0), .val (.int v97), .val (.int v106), .val (.int j122_s0), .val (.int j138_s0)]) rfl ?_
                        show Steps p.tables e below (T38.setTop (mkF m 140 #[.val (.long q0), .second, .val (.long q1), .second, .val (.long q2), .second, .val (.long q3), .second, .val (.ref b0), .val (.int v97), .val (.int v106), .val (.int j122_s0), .val (.int j138_s0)] [])) t
                        refine XS.iload X38.here hx rfl (hb hby at_140) rfl ?_
                        exact kt
                      obtain ⟨jx142, pcx142, Lx142, Sx142, T68, lc69, hjx142, X70, e71, N72, hdx142, K73⟩ : ∃ (jx142 : Int32) (pcx142 : Nat) (Lx142 : Array Slot) (Sx142 : List Value) (T68 : State) (lc69 : List Loc), jx142 = (if j138_s0 = (0 : Int32) then (if q0 = q0 then (1 : Int32) else (0 : Int32)) else (if j122_s0 = (0 : Int32) then (0 : Int32) else (if q0 = q0 then (1 : Int32) else (0 : Int32)))) ∧ Stand p l e room_1 (s.setVm T6.vm) m #[(.long q0), (.long q1), (.long q2), (.long q3)] below meth c T68 lc69 4 16 ∧ T68.heap = h28 ∧ Fr n0 lc69 ∧ decode c.code pcx142 = .ok (.ireturn, 1) ∧ ∀ t, Steps p.tables e below (T68.setTop (mkF m pcx142 Lx142 ((.int jx142) :: Sx142))) t → P0 t := by
                        by_cases hc142 : j138_s0 = (0 : Int32)
                        · obtain ⟨T50, X50, e50, st50⟩ := getF X38 hx hZ hown (host := "") (Or.inl (hw _ (List.mem_of_getElem? (i := 33) rfl))) Via.refl e38 F31 (g := (mkF m 154 #[.val (.long q0), .second, .val (.long q1), .second, .val (.long q2), .second, .val (.long q3), .second, .val (.ref b0), .val (.int v97), .val (.int v106), .val (.int j122_s0), .val (.int j138_s0)] [(.ref b0)])) rfl rfl (hb hby at_154)
                          have K51 : ∀ t, Steps p.tables e below (T50.setTop (mkF m 159 #[.val (.long q0), .second, .val (.long q1), .second, .val (.long q2), .second, .val (.long q3), .second, .val (.ref b0), .val (.int v97), .val (.int v106), .val (.int j122_s0), .val (.int j138_s0)] [(.int (lcmpW q0 q0))])) t → P0 t := by
                            intro t kt
                            refine K49 t ?_
                            show Steps p.tables e below (T38.setTop (mkF m 142 #[.val (.long q0), .second, .val (.long q1), .second, .val (.long q2), .second, .val (.long q3), .second, .val (.ref b0), .val (.int v97), .val (.int v106), .val (.int j122_s0), .val (.int j138_s0)] [(.int j138_s0)])) t
                            refine XS.ifYes X38.here hx rfl (pc0 := 142) (pc' := 152) rfl (hb hby at_142) rfl ((if0 _ _).trans (teq hc142).1) (by decide) (by decide) ?_
                            show Steps p.tables e below (T38.setTop (mkF m 152 #[.val (.long q0), .second, .val (.long q1), .second, .val (.long q2), .second, .val (.long q3), .second, .val (.ref b0), .val (.int v97), .val (.int v106), .val (.int j122_s0), .val (.int j138_s0)] [])) t
                            refine XS.aload X38.here hx rfl (hb hby at_152) rfl rfl ?_
                            show Steps p.tables e below (T38.setTop (mkF m 154 #[.val (.long q0), .second, .val (.long q1), .second, .val (.long q2), .second, .val (.long q3), .second, .val (.ref b0), .val (.int v97), .val (.int v106), .val (.int j122_s0), .val (.int j138_s0)] [(.ref b0)])) t
                            refine st50 _ ?_
                            show Steps p.tables e below (T50.setTop (mkF m 157 #[.val (.long q0), .second, .val (.long q1), .second, .val (.long q2), .second, .val (.long q3), .second, .val (.ref b0), .val (.int v97), .val (.int v106), .val (.int j122_s0), .val (.int j138_s0)] [(.long q0)])) t
                            refine XS.lloadN X50.here hx rfl (hb hby at_157) rfl ?_
                            show Steps p.tables e below (T50.setTop (mkF m 158 #[.val (.long q0), .second, .val (.long q1), .second, .val (.long q2), .second, .val (.long q3), .second, .val (.ref b0), .val (.int v97), .val (.int v106), .val (.int j122_s0), .val (.int j138_s0)] [(.long q0), (.long q0)])) t
                            refine XS.lcmp X50.here hx rfl (hb hby at_158) rfl ?_
                            exact kt
                          obtain ⟨jx159, pcx159, Lx159, Sx159, hjx159, hdx159, K54⟩ : ∃ (jx159 : Int32) (pcx159 : Nat) (Lx159 : Array Slot) (Sx159 : List Value), jx159 = (if q0 = q0 then (1 : Int32) else (0 : Int32)) ∧ decode c.code pcx159 = .ok (.ireturn, 1) ∧ ∀ t, Steps p.tables e below (T50.setTop (mkF m pcx159 Lx159 ((.int jx159) :: Sx159))) t → P0 t := by
                            by_cases hc159 : q0 = q0
                            · have K52 : ∀ t, Steps p.tables e below (T50.setTop (mkF m 165 #[.val (.long q0), .second, .val (.long q1), .second, .val (.long q2), .second, .val (.long q3), .second, .val (.ref b0), .val (.int v97), .val (.int v106), .val (.int j122_s0), .val (.int j138_s0)] [(.int (1 : Int32))])) t → P0 t := by
                                intro t kt
                                refine K51 t ?_
                                show Steps p.tables e below (T50.setTop (mkF m 159 #[.val (.long q0), .second, .val (.long q1), .second, .val (.long q2), .second, .val (.long q3), .second, .val (.ref b0), .val (.int v97), .val (.int v106), .val (.int j122_s0), .val (.int j138_s0)] [(.int (lcmpW q0 q0))])) t
                                refine XS.ifYes X50.here hx rfl (pc0 := 159) (pc' := 164) rfl (hb hby at_159) rfl ((if0 _ _).trans (teq ((lw_eq q0 q0).mpr hc159)).1) (by decide) (by decide) ?_
                                show Steps p.tables e below (T50.setTop (mkF m 164 #[.val (.long q0), .second, .val (.long q1), .second, .val (.long q2), .second, .val (.long q3), .second, .val (.ref b0), .val (.int v97), .val (.int v106), .val (.int j122_s0), .val (.int j138_s0)] [])) t
                                refine XS.iconst X50.here hx rfl (hb hby at_164) ?_
                                exact kt
                              exact ⟨_, _, _, _, (if_pos hc159).symm, (hb hby at_165), K52⟩
                            · have K53 : ∀ t, Steps p.tables e below (T50.setTop (mkF m 163 #[.val (.long q0), .second, .val (.long q1), .second, .val (.long q2), .second, .val (.long q3), .second, .val (.ref b0), .val (.int v97), .val (.int v106), .val (.int j122_s0), .val (.int j138_s0)] [(.int (0 : Int32))])) t → P0 t := by
                                intro t kt
                                refine K51 t ?_
                                show Steps p.tables e below (T50.setTop (mkF m 159 #[.val (.long q0), .second, .val (.long q1), .second, .val (.long q2), .second, .val (.long q3), .second, .val (.ref b0), .val (.int v97), .val (.int v106), .val (.int j122_s0), .val (.int j138_s0)] [(.int (lcmpW q0 q0))])) t
                                refine XS.ifNo X50.here hx rfl (hb hby at_159) rfl ((if0 _ _).trans (feq (fun q => hc159 ((lw_eq q0 q0).mp q))).1) ?_
                                show Steps p.tables e below (T50.setTop (mkF m 162 #[.val (.long q0), .second, .val (.long q1), .second, .val (.long q2), .second, .val (.long q3), .second, .val (.ref b0), .val (.int v97), .val (.int v106), .val (.int j122_s0), .val (.int j138_s0)] [])) t
                                refine XS.iconst X50.here hx rfl (hb hby at_162) ?_
                                exact kt
                              exact ⟨_, _, _, _, (if_neg hc159).symm, (hb hby at_163), K53⟩
                          subst hjx159
                          exact ⟨_, _, _, _, _, _, (if_pos hc142).symm, X50, e50, N38, hdx159, K54⟩
                        · have K55 : ∀ t, Steps p.tables e below (T38.setTop (mkF m 147 #[.val (.long q0), .second, .val (.long q1), .second, .val (.long q2), .second, .val (.long q3), .second, .val (.ref b0), .val (.int v97), .val (.int v106), .val (.int j122_s0), .val (.int j138_s0)] [(.int j122_s0)])) t → P0 t := by
                            intro t kt
                            refine K49 t ?_
                            show Steps p.tables e below (T38.setTop (mkF m 142 #[.val (.long q0), .second, .val (.long q1), .second, .val (.long q2), .second, .val (.long q3), .second, .val (.ref b0), .val (.int v97), .val (.int v106), .val (.int j122_s0), .val (.int j138_s0)] [(.int j138_s0)])) t
                            refine XS.ifNo X38.here hx rfl (hb hby at_142) rfl ((if0 _ _).trans (feq hc142).1) ?_
                            show Steps p.tables e below (T38.setTop (mkF m 145 #[.val (.long q0), .second, .val (.long q1), .second, .val (.long q2), .second, .val (.long q3), .second, .val (.ref b0), .val (.int v97), .val (.int v106), .val (.int j122_s0), .val (.int j138_s0)] [])) t
                            refine XS.iload X38.here hx rfl (hb hby at_145) rfl ?_
                            exact kt
                          obtain ⟨jx147, pcx147, Lx147, Sx147, T62, lc63, hjx147, X64, e65, N66, hdx147, K67⟩ : ∃ (jx147 : Int32) (pcx147 : Nat) (Lx147 : Array Slot) (Sx147 : List Value) (T62 : State) (lc63 : List Loc), jx147 = (if j122_s0 = (0 : Int32) then (0 : Int32) else (if q0 = q0 then (1 : Int32) else (0 : Int32))) ∧ Stand p l e room_1 (s.setVm T6.vm) m #[(.long q0), (.long q1), (.long q2), (.long q3)] below meth c T62 lc63 4 16 ∧ T62.heap = h28 ∧ Fr n0 lc63 ∧ decode c.code pcx147 = .ok (.ireturn, 1) ∧ ∀ t, Steps p.tables e below (T62.setTop (mkF m pcx147 Lx147 ((.int jx147) :: Sx147))) t → P0 t := by
                            by_cases hc147 : j122_s0 = (0 : Int32)
                            · have K56 : ∀ t, Steps p.tables e below (T38.setTop (mkF m 151 #[.val (.long q0), .second, .val (.long q1), .second, .val (.long q2), .second, .val (.long q3), .second, .val (.ref b0), .val (.int v97), .val (.int v106), .val (.int j122_s0), .val (.int j138_s0)] [(.int (0 : Int32))])) t → P0 t := by
                                intro t kt
                                refine K55 t ?_
                                show Steps p.tables e below (T38.setTop (mkF m 147 #[.val (.long q0), .second, .val (.long q1), .second, .val (.long q2), .second, .val (.long q3), .second, .val (.ref b0), .val (.int v97), .val (.int v106), .val (.int j122_s0), .val (.int j138_s0)] [(.int j122_s0)])) t
                                refine XS.ifNo X38.here hx rfl (hb hby at_147) rfl ((if0 _ _).trans (teq hc147).2) ?_
                                show Steps p.tables e below (T38.setTop (mkF m 150 #[.val (.long q0), .second, .val (.long q1), .second, .val (.long q2), .second, .val (.long q3), .second, .val (.ref b0), .val (.int v97), .val (.int v106), .val (.int j122_s0), .val (.int j138_s0)] [])) t
                                refine XS.iconst X38.here hx rfl (hb hby at_150) ?_
                                exact kt
                              exact ⟨_, _, _, _, _, _, (if_pos hc147).symm, X38, e38, N38, (hb hby at_151), K56⟩
                            · obtain ⟨T57, X57, e57, st57⟩ := getF X38 hx hZ hown (host := "") (Or.inl (hw _ (List.mem_of_getElem? (i := 33) rfl))) Via.refl e38 F31 (g := (mkF m 154 #[.val (.long q0), .second, .val (.long q1), .second, .val (.long q2), .second, .val (.long q3), .second, .val (.ref b0), .val (.int v97), .val (.int v106), .val (.int j122_s0), .val (.int j138_s0)] [(.ref b0)])) rfl rfl (hb hby at_154)
                              have K58 : ∀ t, Steps p.tables e below (T57.setTop (mkF m 159 #[.val (.long q0), .second, .val (.long q1), .second, .val (.long q2), .second, .val (.long q3), .second, .val (.ref b0), .val (.int v97), .val (.int v106), .val (.int j122_s0), .val (.int j138_s0)] [(.int (lcmpW q0 q0))])) t → P0 t := by
                                intro t kt
                                refine K55 t ?_
                                show Steps p.tables e below (T38.setTop (mkF m 147 #[.val (.long q0), .second, .val (.long q1), .second, .val (.long q2), .second, .val (.long q3), .second, .val (.ref b0), .val (.int v97), .val (.int v106), .val (.int j122_s0), .val (.int j138_s0)] [(.int j122_s0)])) t
                                refine XS.ifYes X38.here hx rfl (pc0 := 147) (pc' := 152) rfl (hb hby at_147) rfl ((if0 _ _).trans (feq hc147).2) (by decide) (by decide) ?_
                                show Steps p.tables e below (T38.setTop (mkF m 152 #[.val (.long q0), .second, .val (.long q1), .second, .val (.long q2), .second, .val (.long q3), .second, .val (.ref b0), .val (.int v97), .val (.int v106), .val (.int j122_s0), .val (.int j138_s0)] [])) t
                                refine XS.aload X38.here hx rfl (hb hby at_152) rfl rfl ?_
                                show Steps p.tables e below (T38.setTop (mkF m 154 #[.val (.long q0), .second, .val (.long q1), .second, .val (.long q2), .second, .val (.long q3), .second, .val (.ref b0), .val (.int v97), .val (.int v106), .val (.int j122_s0), .val (.int j138_s0)] [(.ref b0)])) t
                                refine st57 _ ?_
                                show Steps p.tables e below (T57.setTop (mkF m 157 #[.val (.long q0), .second, .val (.long q1), .second, .val (.long q2), .second, .val (.long q3), .second, .val (.ref b0), .val (.int v97), .val (.int v106), .val (.int j122_s0), .val (.int j138_s0)] [(.long q0)])) t
                                refine XS.lloadN X57.here hx rfl (hb hby at_157) rfl ?_
                                show Steps p.tables e below (T57.setTop (mkF m 158 #[.val (.long q0), .second, .val (.long q1), .second, .val (.long q2), .second, .val (.long q3), .second, .val (.ref b0), .val (.int v97), .val (.int v106), .val (.int j122_s0), .val (.int j138_s0)] [(.long q0), (.long q0)])) t
                                refine XS.lcmp X57.here hx rfl (hb hby at_158) rfl ?_
                                exact kt
                              obtain ⟨jx159_1, pcx159, Lx159, Sx159, hjx159_1, hdx159, K61⟩ : ∃ (jx159_1 : Int32) (pcx159 : Nat) (Lx159 : Array Slot) (Sx159 : List Value), jx159_1 = (if q0 = q0 then (1 : Int32) else (0 : Int32)) ∧ decode c.code pcx159 = .ok (.ireturn, 1) ∧ ∀ t, Steps p.tables e below (T57.setTop (mkF m pcx159 Lx159 ((.int jx159_1) :: Sx159))) t → P0 t := by
                                by_cases hc159_1 : q0 = q0
                                · have K59 : ∀ t, Steps p.tables e below (T57.setTop (mkF m 165 #[.val (.long q0), .second, .val (.long q1), .second, .val (.long q2), .second, .val (.long q3), .second, .val (.ref b0), .val (.int v97), .val (.int v106), .val (.int j122_s0), .val (.int j138_s0)] [(.int (1 : Int32))])) t → P0 t := by
                                    intro t kt
                                    refine K58 t ?_
                                    show Steps p.tables e below (T57.setTop (mkF m 159 #[.val (.long q0), .second, .val (.long q1), .second, .val (.long q2), .second, .val (.long q3), .second, .val (.ref b0), .val (.int v97), .val (.int v106), .val (.int j122_s0), .val (.int j138_s0)] [(.int (lcmpW q0 q0))])) t
                                    refine XS.ifYes X57.here hx rfl (pc0 := 159) (pc' := 164) rfl (hb hby at_159) rfl ((if0 _ _).trans (teq ((lw_eq q0 q0).mpr hc159_1)).1) (by decide) (by decide) ?_
                                    show Steps p.tables e below (T57.setTop (mkF m 164 #[.val (.long q0), .second, .val (.long q1), .second, .val (.long q2), .second, .val (.long q3), .second, .val (.ref b0), .val (.int v97), .val (.int v106), .val (.int j122_s0), .val (.int j138_s0)] [])) t
                                    refine XS.iconst X57.here hx rfl (hb hby at_164) ?_
                                    exact kt
                                  exact ⟨_, _, _, _, (if_pos hc159_1).symm, (hb hby at_165), K59⟩
                                · have K60 : ∀ t, Steps p.tables e below (T57.setTop (mkF m 163 #[.val (.long q0), .second, .val (.long q1), .second, .val (.long q2), .second, .val (.long q3), .second, .val (.ref b0), .val (.int v97), .val (.int v106), .val (.int j122_s0), .val (.int j138_s0)] [(.int (0 : Int32))])) t → P0 t := by
                                    intro t kt
                                    refine K58 t ?_
                                    show Steps p.tables e below (T57.setTop (mkF m 159 #[.val (.long q0), .second, .val (.long q1), .second, .val (.long q2), .second, .val (.long q3), .second, .val (.ref b0), .val (.int v97), .val (.int v106), .val (.int j122_s0), .val (.int j138_s0)] [(.int (lcmpW q0 q0))])) t
                                    refine XS.ifNo X57.here hx rfl (hb hby at_159) rfl ((if0 _ _).trans (feq (fun q => hc159_1 ((lw_eq q0 q0).mp q))).1) ?_
                                    show Steps p.tables e below (T57.setTop (mkF m 162 #[.val (.long q0), .second, .val (.long q1), .second, .val (.long q2), .second, .val (.long q3), .second, .val (.ref b0), .val (.int v97), .val (.int v106), .val (.int j122_s0), .val (.int j138_s0)] [])) t
                                    refine XS.iconst X57.here hx rfl (hb hby at_162) ?_
                                    exact kt
                                  exact ⟨_, _, _, _, (if_neg hc159_1).symm, (hb hby at_163), K60⟩
                              subst hjx159_1
                              exact ⟨_, _, _, _, _, _, (if_neg hc147).symm, X57, e57, N38, hdx159, K61⟩
                          subst hjx147
                          exact ⟨_, _, _, _, _, _, (if_neg hc142).symm, X64, e65, N66, hdx147, K67⟩
                      subst hv97
                      subst hv106
                      subst hj122_s0
                      subst hj138_s0
                      subst hjx142
                      exact ⟨_, _, _, _, _, _, (if_pos hc75).symm, X70, e71, N72, hdx142, K73⟩
                    · obtain ⟨cq74, kq74, q74a, q74b, q74c⟩ := isOf hZ e32 F29
                      obtain ⟨_, _, ⟨T74, L74, k74, n74⟩, -, X74, ⟨Lc74, hQ74, l74, y74, z74⟩, st74⟩ := X32.virtualBack hx (y := (⟨"com/example/lease/lease/engine/Task", "liveAt", "(J)Z"⟩ : MethodName)) (z := (⟨"com/example/lease/lease/engine/Task", "liveAt", "(J)Z"⟩ : MethodName)) hown (mvT hZ (hw _ (List.mem_of_getElem? (i := 26) rfl))) (mvT hZ (hw _ (List.mem_of_getElem? (i := 27) rfl))) (notFace_of_selects (args := #[]) (mvT hZ (hw _ (List.mem_of_getElem? (i := 29) rfl)))) (mvT hZ (hw _ (List.mem_of_getElem? (i := 29) rfl))) (mvT hZ (hw _ (List.mem_of_getElem? (i := 28) rfl))) (by decide) (backOf (W := 0) (rm_liv l Z a0 hw [] b0 (q0 - (1 : Int64)) q0 h28 n0 Z28 F31) hZ (hw _ (List.mem_of_getElem? (i := 30) rfl)) (hw _ (List.mem_of_getElem? (i := 2) rfl)) (by decide) (by decide)) q74a q74c (g := (mkF m 83 #[.val (.long q0), .second, .val (.long q1), .second, .val (.long q2), .second, .val (.long q3), .second, .val (.ref b0), .unset, .unset, .unset, .unset] [(.long (q0 - (1 : Int64))), (.ref b0)])) rfl (by rw [hml]; rfl) (Steps.refl _) (argsL := [(.long (q0 - (1 : Int64)))]) (rest := []) (lenOf law_pd1 rfl) rfl (by show 2 * 0 + _ ≤ _; exact Nat.le_of_eq rfl) (hb hby at_83) (fun _ _ => ⟨rfl, e32, (by decide : 4 + 0 ≤ _), (by decide : 16 + 0 ≤ _)⟩)
                      dsimp only [Pt.U, Pt.locs, Pt.cells, Pt.slots] at X74 l74 y74 z74 st74 hQ74
                      subst l74 y74 z74
                      obtain ⟨rfl, N74q, e74⟩ := hQ74
                      have N74 := Fr.app N32 N74q
                      have K75 : ∀ t, Steps p.tables e below (T74.setTop (mkF m 86 #[.val (.long q0), .second, .val (.long q1), .second, .val (.long q2), .second, .val (.long q3), .second, .val (.ref b0), .unset, .unset, .unset, .unset] [(.int (fLiv (q0 - (1 : Int64)) q0))])) t → P0 t := by
                        intro t kt
                        refine K34 t ?_
                        show Steps p.tables e below (T32.setTop (mkF m 75 #[.val (.long q0), .second, .val (.long q1), .second, .val (.long q2), .second, .val (.long q3), .second, .val (.ref b0), .unset, .unset, .unset, .unset] [(.int (lcmpW q0 (-9223372036854775808 : Int64)))])) t
                        refine XS.ifNo X32.here hx rfl (hb hby at_75) rfl ((if0 _ _).trans (feq (fun q => hc75 ((lw_eq q0 (-9223372036854775808 : Int64)).mp q))).1) ?_
                        show Steps p.tables e below (T32.setTop (mkF m 78 #[.val (.long q0), .second, .val (.long q1), .second, .val (.long q2), .second, .val (.long q3), .second, .val (.ref b0), .unset, .unset, .unset, .unset] [])) t
                        refine XS.aload X32.here hx rfl (hb hby at_78) rfl rfl ?_
                        show Steps p.tables e below (T32.setTop (mkF m 80 #[.val (.long q0), .second, .val (.long q1), .second, .val (.long q2), .second, .val (.long q3), .second, .val (.ref b0), .unset, .unset, .unset, .unset] [(.ref b0)])) t
                        refine XS.lloadN X32.here hx rfl (hb hby at_80) rfl ?_
                        show Steps p.tables e below (T32.setTop (mkF m 81 #[.val (.long q0), .second, .val (.long q1), .second, .val (.long q2), .second, .val (.long q3), .second, .val (.ref b0), .unset, .unset, .unset, .unset] [(.long q0), (.ref b0)])) t
                        refine XS.lconst X32.here hx rfl (hb hby at_81) ?_
                        show Steps p.tables e below (T32.setTop (mkF m 82 #[.val (.long q0), .second, .val (.long q1), .second, .val (.long q2), .second, .val (.long q3), .second, .val (.ref b0), .unset, .unset, .unset, .unset] [(.long (1 : Int64)), (.long q0), (.ref b0)])) t
                        refine XS.lsub X32.here hx rfl (hb hby at_82) rfl ?_
                        show Steps p.tables e below (T32.setTop (mkF m 83 #[.val (.long q0), .second, .val (.long q1), .second, .val (.long q2), .second, .val (.long q3), .second, .val (.ref b0), .unset, .unset, .unset, .unset] [(.long (q0 - (1 : Int64))), (.ref b0)])) t
                        refine st74.trans ?_
                        exact kt
                      obtain ⟨jx86, pcx86, Lx86, Sx86, T116, lc117, hjx86, X118, e119, N120, hdx86, K121⟩ : ∃ (jx86 : Int32) (pcx86 : Nat) (Lx86 : Array Slot) (Sx86 : List Value) (T116 : State) (lc117 : List Loc), jx86 = (if (fLiv (q0 - (1 : Int64)) q0) = (0 : Int32) then (0 : Int32) else (if (if q2 < q1 then (fLiv q1 q0) else (fLiv q2 q0)) = (0 : Int32) then (if q0 = q0 then (1 : Int32) else (0 : Int32)) else (if (if q2 < q1 then (fLiv q2 q0) else (fLiv q1 q0)) = (0 : Int32) then (0 : Int32) else (if q0 = q0 then (1 : Int32) else (0 : Int32))))) ∧ Stand p l e room_1 (s.setVm T6.vm) m #[(.long q0), (.long q1), (.long q2), (.long q3)] below meth c T116 lc117 4 16 ∧ T116.heap = h28 ∧ Fr n0 lc117 ∧ decode c.code pcx86 = .ok (.ireturn, 1) ∧ ∀ t, Steps p.tables e below (T116.setTop (mkF m pcx86 Lx86 ((.int jx86) :: Sx86))) t → P0 t := by
                        by_cases hc86 : (fLiv (q0 - (1 : Int64)) q0) = (0 : Int32)
                        · have K76 : ∀ t, Steps p.tables e below (T74.setTop (mkF m 90 #[.val (.long q0), .second, .val (.long q1), .second, .val (.long q2), .second, .val (.long q3), .second, .val (.ref b0), .unset, .unset, .unset, .unset] [(.int (0 : Int32))])) t → P0 t := by
                            intro t kt
                            refine K75 t ?_
                            show Steps p.tables e below (T74.setTop (mkF m 86 #[.val (.long q0), .second, .val (.long q1), .second, .val (.long q2), .second, .val (.long q3), .second, .val (.ref b0), .unset, .unset, .unset, .unset] [(.int (fLiv (q0 - (1 : Int64)) q0))])) t
                            refine XS.ifNo X74.here hx rfl (hb hby at_86) rfl ((if0 _ _).trans (teq hc86).2) ?_
                            show Steps p.tables e below (T74.setTop (mkF m 89 #[.val (.long q0), .second, .val (.long q1), .second, .val (.long q2), .second, .val (.long q3), .second, .val (.ref b0), .unset, .unset, .unset, .unset] [])) t
                            refine XS.iconst X74.here hx rfl (hb hby at_89) ?_
                            exact kt
                          exact ⟨_, _, _, _, _, _, (if_pos hc86).symm, X74, e74, N74, (hb hby at_90), K76⟩
                        · obtain ⟨cq77, kq77, q77a, q77b, q77c⟩ := isOf hZ e74 F29
                          obtain ⟨_, _, ⟨T77, L77, k77, n77⟩, -, X77, ⟨Lc77, hQ77, l77, y77, z77⟩, st77⟩ := X74.virtualBack hx (y := (⟨"com/example/lease/lease/engine/Task", "liveAt", "(J)Z"⟩ : MethodName)) (z := (⟨"com/example/lease/lease/engine/Task", "liveAt", "(J)Z"⟩ : MethodName)) hown (mvT hZ (hw _ (List.mem_of_getElem? (i := 26) rfl))) (mvT hZ (hw _ (List.mem_of_getElem? (i := 27) rfl))) (notFace_of_selects (args := #[]) (mvT hZ (hw _ (List.mem_of_getElem? (i := 29) rfl)))) (mvT hZ (hw _ (List.mem_of_getElem? (i := 29) rfl))) (mvT hZ (hw _ (List.mem_of_getElem? (i := 28) rfl))) (by decide) (backOf (W := 0) (rm_liv l Z a0 hw [] b0 q1 q0 h28 n0 Z28 F31) hZ (hw _ (List.mem_of_getElem? (i := 30) rfl)) (hw _ (List.mem_of_getElem? (i := 2) rfl)) (by decide) (by decide)) q77a q77c (g := (mkF m 94 #[.val (.long q0), .second, .val (.long q1), .second, .val (.long q2), .second, .val (.long q3), .second, .val (.ref b0), .unset, .unset, .unset, .unset] [(.long q1), (.ref b0)])) rfl (by rw [hml]; rfl) (Steps.refl _) (argsL := [(.long q1)]) (rest := []) (lenOf law_pd1 rfl) rfl (by show 2 * 0 + _ ≤ _; exact Nat.le_of_eq rfl) (hb hby at_94) (fun _ _ => ⟨rfl, e74, (by decide : 4 + 0 ≤ _), (by decide : 16 + 0 ≤ _)⟩)
                          dsimp only [Pt.U, Pt.locs, Pt.cells, Pt.slots] at X77 l77 y77 z77 st77 hQ77
                          subst l77 y77 z77
                          obtain ⟨rfl, N77q, e77⟩ := hQ77
                          have N77 := Fr.app N74 N77q
                          have K78 : ∀ t, Steps p.tables e below (T77.setTop (mkF m 99 #[.val (.long q0), .second, .val (.long q1), .second, .val (.long q2), .second, .val (.long q3), .second, .val (.ref b0), .val (.int (fLiv q1 q0)), .unset, .unset, .unset] [])) t → P0 t := by
                            intro t kt
                            refine K75 t ?_
                            show Steps p.tables e below (T74.setTop (mkF m 86 #[.val (.long q0), .second, .val (.long q1), .second, .val (.long q2), .second, .val (.long q3), .second, .val (.ref b0), .unset, .unset, .unset, .unset] [(.int (fLiv (q0 - (1 : Int64)) q0))])) t
                            refine XS.ifYes X74.here hx rfl (pc0 := 86) (pc' := 91) rfl (hb hby at_86) rfl ((if0 _ _).trans (feq hc86).2) (by decide) (by decide) ?_
                            show Steps p.tables e below (T74.setTop (mkF m 91 #[.val (.long q0), .second, .val (.long q1), .second, .val (.long q2), .second, .val (.long q3), .second, .val (.ref b0), .unset, .unset, .unset, .unset] [])) t
                            refine XS.aload X74.here hx rfl (hb hby at_91) rfl rfl ?_
                            show Steps p.tables e below (T74.setTop (mkF m 93 #[.val (.long q0), .second, .val (.long q1), .second, .val (.long q2), .second, .val (.long q3), .second, .val (.ref b0), .unset, .unset, .unset, .unset] [(.ref b0)])) t
                            refine XS.lloadN X74.here hx rfl (hb hby at_93) rfl ?_
                            show Steps p.tables e below (T74.setTop (mkF m 94 #[.val (.long q0), .second, .val (.long q1), .second, .val (.long q2), .second, .val (.long q3), .second, .val (.ref b0), .unset, .unset, .unset, .unset] [(.long q1), (.ref b0)])) t
                            refine st77.trans ?_
                            show Steps p.tables e below (T77.setTop (mkF m 97 #[.val (.long q0), .second, .val (.long q1), .second, .val (.long q2), .second, .val (.long q3), .second, .val (.ref b0), .unset, .unset, .unset, .unset] [(.int (fLiv q1 q0))])) t
                            refine XS.istore X77.here hx rfl (hb hby at_97) rfl (l' := #[.val (.long q0), .second, .val (.long q1), .second, .val (.long q2), .second, .val (.long q3), .second, .val (.ref b0), .val (.int (fLiv q1 q0)), .unset, .unset, .unset]) rfl ?_
                            exact kt
                          obtain ⟨v97_1, hv97_1, K79⟩ : ∃ v97_1 : Int32, v97_1 = (fLiv q1 q0) ∧ ∀ t, Steps p.tables e below (T77.setTop (mkF m 99 #[.val (.long q0), .second, .val (.long q1), .second, .val (.long q2), .second, .val (.long q3), .second, .val (.ref b0), .val (.int v97_1), .unset, .unset, .unset] [])) t → P0 t := ⟨_, rfl, K78⟩
                          obtain ⟨cq80, kq80, q80a, q80b, q80c⟩ := isOf hZ e77 F29
                          obtain ⟨_, _, ⟨T80, L80, k80, n80⟩, -, X80, ⟨Lc80, hQ80, l80, y80, z80⟩, st80⟩ := X77.virtualBack hx (y := (⟨"com/example/lease/lease/engine/Task", "liveAt", "(J)Z"⟩ : MethodName)) (z := (⟨"com/example/lease/lease/engine/Task", "liveAt", "(J)Z"⟩ : MethodName)) hown (mvT hZ (hw _ (List.mem_of_getElem? (i := 26) rfl))) (mvT hZ (hw _ (List.mem_of_getElem? (i := 27) rfl))) (notFace_of_selects (args := #[]) (mvT hZ (hw _ (List.mem_of_getElem? (i := 29) rfl)))) (mvT hZ (hw _ (List.mem_of_getElem? (i := 29) rfl))) (mvT hZ (hw _ (List.mem_of_getElem? (i := 28) rfl))) (by decide) (backOf (W := 0) (rm_liv l Z a0 hw [] b0 q2 q0 h28 n0 Z28 F31) hZ (hw _ (List.mem_of_getElem? (i := 30) rfl)) (hw _ (List.mem_of_getElem? (i := 2) rfl)) (by decide) (by decide)) q80a q80c (g := (mkF m 103 #[.val (.long q0), .second, .val (.long q1), .second, .val (.long q2), .second, .val (.long q3), .second, .val (.ref b0), .val (.int v97_1), .unset, .unset, .unset] [(.long q2), (.ref b0)])) rfl (by rw [hml]; rfl) (Steps.refl _) (argsL := [(.long q2)]) (rest := []) (lenOf law_pd1 rfl) rfl (by show 2 * 0 + _ ≤ _; exact Nat.le_of_eq rfl) (hb hby at_103) (fun _ _ => ⟨rfl, e77, (by decide : 4 + 0 ≤ _), (by decide : 16 + 0 ≤ _)⟩)
                          dsimp only [Pt.U, Pt.locs, Pt.cells, Pt.slots] at X80 l80 y80 z80 st80 hQ80
                          subst l80 y80 z80
                          obtain ⟨rfl, N80q, e80⟩ := hQ80
                          have N80 := Fr.app N77 N80q
                          have K81 : ∀ t, Steps p.tables e below (T80.setTop (mkF m 108 #[.val (.long q0), .second, .val (.long q1), .second, .val (.long q2), .second, .val (.long q3), .second, .val (.ref b0), .val (.int v97_1), .val (.int (fLiv q2 q0)), .unset, .unset] [])) t → P0 t := by
                            intro t kt
                            refine K79 t ?_
                            show Steps p.tables e below (T77.setTop (mkF m 99 #[.val (.long q0), .second, .val (.long q1), .second, .val (.long q2), .second, .val (.long q3), .second, .val (.ref b0), .val (.int v97_1), .unset, .unset, .unset] [])) t
                            refine XS.aload X77.here hx rfl (hb hby at_99) rfl rfl ?_
                            show Steps p.tables e below (T77.setTop (mkF m 101 #[.val (.long q0), .second, .val (.long q1), .second, .val (.long q2), .second, .val (.long q3), .second, .val (.ref b0), .val (.int v97_1), .unset, .unset, .unset] [(.ref b0)])) t
                            refine XS.lload X77.here hx rfl (hb hby at_101) rfl ?_
                            show Steps p.tables e below (T77.setTop (mkF m 103 #[.val (.long q0), .second, .val (.long q1), .second, .val (.long q2), .second, .val (.long q3), .second, .val (.ref b0), .val (.int v97_1), .unset, .unset, .unset] [(.long q2), (.ref b0)])) t
                            refine st80.trans ?_
                            show Steps p.tables e below (T80.setTop (mkF m 106 #[.val (.long q0), .second, .val (.long q1), .second, .val (.long q2), .second, .val (.long q3), .second, .val (.ref b0), .val (.int v97_1), .unset, .unset, .unset] [(.int (fLiv q2 q0))])) t
                            refine XS.istore X80.here hx rfl (hb hby at_106) rfl (l' := #[.val (.long q0), .second, .val (.long q1), .second, .val (.long q2), .second, .val (.long q3), .second, .val (.ref b0), .val (.int v97_1), .val (.int (fLiv q2 q0)), .unset, .unset]) rfl ?_
                            exact kt
                          obtain ⟨v106_1, hv106_1, K82⟩ : ∃ v106_1 : Int32, v106_1 = (fLiv q2 q0) ∧ ∀ t, Steps p.tables e below (T80.setTop (mkF m 108 #[.val (.long q0), .second, .val (.long q1), .second, .val (.long q2), .second, .val (.long q3), .second, .val (.ref b0), .val (.int v97_1), .val (.int v106_1), .unset, .unset] [])) t → P0 t := ⟨_, rfl, K81⟩
                          have K83 : ∀ t, Steps p.tables e below (T80.setTop (mkF m 112 #[.val (.long q0), .second, .val (.long q1), .second, .val (.long q2), .second, .val (.long q3), .second, .val (.ref b0), .val (.int v97_1), .val (.int v106_1), .unset, .unset] [(.int (lcmpW q1 q2))])) t → P0 t := by
                            intro t kt
                            refine K82 t ?_
                            show Steps p.tables e below (T80.setTop (mkF m 108 #[.val (.long q0), .second, .val (.long q1), .second, .val (.long q2), .second, .val (.long q3), .second, .val (.ref b0), .val (.int v97_1), .val (.int v106_1), .unset, .unset] [])) t
                            refine XS.lloadN X80.here hx rfl (hb hby at_108) rfl ?_
                            show Steps p.tables e below (T80.setTop (mkF m 109 #[.val (.long q0), .second, .val (.long q1), .second, .val (.long q2), .second, .val (.long q3), .second, .val (.ref b0), .val (.int v97_1), .val (.int v106_1), .unset, .unset] [(.long q1)])) t
                            refine XS.lload X80.here hx rfl (hb hby at_109) rfl ?_
                            show Steps p.tables e below (T80.setTop (mkF m 111 #[.val (.long q0), .second, .val (.long q1), .second, .val (.long q2), .second, .val (.long q3), .second, .val (.ref b0), .val (.int v97_1), .val (.int v106_1), .unset, .unset] [(.long q2), (.long q1)])) t
                            refine XS.lcmp X80.here hx rfl (hb hby at_111) rfl ?_
                            exact kt
                          obtain ⟨j122_s0_1, hj122_s0_1, K86⟩ : ∃ (j122_s0_1 : Int32), j122_s0_1 = (if q2 < q1 then v106_1 else v97_1) ∧ ∀ t, Steps p.tables e below (T80.setTop (mkF m 122 #[.val (.long q0), .second, .val (.long q1), .second, .val (.long q2), .second, .val (.long q3), .second, .val (.ref b0), .val (.int v97_1), .val (.int v106_1), .unset, .unset] [(.int j122_s0_1)])) t → P0 t := by
                            by_cases hc112_1 : q2 < q1
                            · have K84 : ∀ t, Steps p.tables e below (T80.setTop (mkF m 122 #[.val (.long q0), .second, .val (.long q1), .second, .val (.long q2), .second, .val (.long q3), .second, .val (.ref b0), .val (.int v97_1), .val (.int v106_1), .unset, .unset] [(.int v106_1)])) t → P0 t := by
                                intro t kt
                                refine K83 t ?_
                                show Steps p.tables e below (T80.setTop (mkF m 112 #[.val (.long q0), .second, .val (.long q1), .second, .val (.long q2), .second, .val (.long q3), .second, .val (.ref b0), .val (.int v97_1), .val (.int v106_1), .unset, .unset] [(.int (lcmpW q1 q2))])) t
                                refine XS.ifYes X80.here hx rfl (pc0 := 112) (pc' := 120) rfl (hb hby at_112) rfl ((if0 _ _).trans (tlt ((lw_gt q1 q2).mpr hc112_1)).2.2.1) (by decide) (by decide) ?_
                                show Steps p.tables e below (T80.setTop (mkF m 120 #[.val (.long q0), .second, .val (.long q1), .second, .val (.long q2), .second, .val (.long q3), .second, .val (.ref b0), .val (.int v97_1), .val (.int v106_1), .unset, .unset] [])) t
                                refine XS.iload X80.here hx rfl (hb hby at_120) rfl ?_
                                exact kt
                              exact ⟨_, (if_pos hc112_1).symm, K84⟩
                            · have K85 : ∀ t, Steps p.tables e below (T80.setTop (mkF m 122 #[.val (.long q0), .second, .val (.long q1), .second, .val (.long q2), .second, .val (.long q3), .second, .val (.ref b0), .val (.int v97_1), .val (.int v106_1), .unset, .unset] [(.int v97_1)])) t → P0 t := by
                                intro t kt
                                refine K83 t ?_
                                show Steps p.tables e below (T80.setTop (mkF m 112 #[.val (.long q0), .second, .val (.long q1), .second, .val (.long q2), .second, .val (.long q3), .second, .val (.ref b0), .val (.int v97_1), .val (.int v106_1), .unset, .unset] [(.int (lcmpW q1 q2))])) t
                                refine XS.ifNo X80.here hx rfl (hb hby at_112) rfl ((if0 _ _).trans (flt (fun q => hc112_1 ((lw_gt q1 q2).mp q))).2.2.1) ?_
                                show Steps p.tables e below (T80.setTop (mkF m 115 #[.val (.long q0), .second, .val (.long q1), .second, .val (.long q2), .second, .val (.long q3), .second, .val (.ref b0), .val (.int v97_1), .val (.int v106_1), .unset, .unset] [])) t
                                refine XS.iload X80.here hx rfl (hb hby at_115) rfl ?_
                                show Steps p.tables e below (T80.setTop (mkF m 117 #[.val (.long q0), .second, .val (.long q1), .second, .val (.long q2), .second, .val (.long q3), .second, .val (.ref b0), .val (.int v97_1), .val (.int v106_1), .unset, .unset] [(.int v97_1)])) t
                                refine XS.goto X80.here hx rfl (pc0 := 117) (pc' := 122) rfl (hb hby at_117) (by decide) (by decide) ?_
                                exact kt
                              exact ⟨_, (if_neg hc112_1).symm, K85⟩
                          have K87 : ∀ t, Steps p.tables e below (T80.setTop (mkF m 128 #[.val (.long q0), .second, .val (.long q1), .second, .val (.long q2), .second, .val (.long q3), .second, .val (.ref b0), .val (.int v97_1), .val (.int v106_1), .val (.int j122_s0_1), .unset] [(.int (lcmpW q1 q2))])) t → P0 t := by
                            intro t kt
                            refine K86 t ?_
                            show Steps p.tables e below (T80.setTop (mkF m 122 #[.val (.long q0), .second, .val (.long q1), .second, .val (.long q2), .second, .val (.long q3), .second, .val (.ref b0), .val (.int v97_1), .val (.int v106_1), .unset, .unset] [(.int j122_s0_1)])) t
                            refine XS.istore X80.here hx rfl (hb hby at_122) rfl (l' := #[.val (.long q0), .second, .val (.long q1), .second, .val (.long q2), .second, .val (.long q3), .second, .val (.ref b0), .val (.int v97_1), .val (.int v106_1), .val (.int j122_s0_1), .unset]) rfl ?_
                            show Steps p.tables e below (T80.setTop (mkF m 124 #[.val (.long q0), .second, .val (.long q1), .second, .val (.long q2), .second, .val (.long q3), .second, .val (.ref b0), .val (.int v97_1), .val (.int v106_1), .val (.int j122_s0_1), .unset] [])) t
                            refine XS.lloadN X80.here hx rfl (hb hby at_124) rfl ?_
                            show Steps p.tables e below (T80.setTop (mkF m 125 #[.val (.long q0), .second, .val (.long q1), .second, .val (.long q2), .second, .val (.long q3), .second, .val (.ref b0), .val (.int v97_1), .val (.int v106_1), .val (.int j122_s0_1), .unset] [(.long q1)])) t
                            refine XS.lload X80.here hx rfl (hb hby at_125) rfl ?_
                            show Steps p.tables e below (T80.setTop (mkF m 127 #[.val (.long q0), .second, .val (.long q1), .second, .val (.long q2), .second, .val (.long q3), .second, .val (.ref b0), .val (.int v97_1), .val (.int v106_1), .val (.int j122_s0_1), .unset] [(.long q2), (.long q1)])) t
                            refine XS.lcmp X80.here hx rfl (hb hby at_127) rfl ?_
                            exact kt
                          obtain ⟨j138_s0_1, hj138_s0_1, K90⟩ : ∃ (j138_s0_1 : Int32), j138_s0_1 = (if q2 < q1 then v97_1 else v106_1) ∧ ∀ t, Steps p.tables e below (T80.setTop (mkF m 138 #[.val (.long q0), .second, .val (.long q1), .second, .val (.long q2), .second, .val (.long q3), .second, .val (.ref b0), .val (.int v97_1), .val (.int v106_1), .val (.int j122_s0_1), .unset] [(.int j138_s0_1)])) t → P0 t := by
                            by_cases hc128_1 : q2 < q1
                            · have K88 : ∀ t, Steps p.tables e below (T80.setTop (mkF m 138 #[.val (.long q0), .second, .val (.long q1), .second, .val (.long q2), .second, .val (.long q3), .second, .val (.ref b0), .val (.int v97_1), .val (.int v106_1), .val (.int j122_s0_1), .unset] [(.int v97_1)])) t → P0 t := by
                                intro t kt
                                refine K87 t ?_
                                show Steps p.tables e below (T80.setTop (mkF m 128 #[.val (.long q0), .second, .val (.long q1), .second, .val (.long q2), .second, .val (.long q3), .second, .val (.ref b0), .val (.int v97_1), .val (.int v106_1), .val (.int j122_s0_1), .unset] [(.int (lcmpW q1 q2))])) t
                                refine XS.ifYes X80.here hx rfl (pc0 := 128) (pc' := 136) rfl (hb hby at_128) rfl ((if0 _ _).trans (tlt ((lw_gt q1 q2).mpr hc128_1)).2.2.1) (by decide) (by decide) ?_
                                show Steps p.tables e below (T80.setTop (mkF m 136 #[.val (.long q0), .second, .val (.long q1), .second, .val (.long q2), .second, .val (.long q3), .second, .val (.ref b0), .val (.int v97_1), .val (.int v106_1), .val (.int j122_s0_1), .unset] [])) t
                                refine XS.iload X80.here hx rfl (hb hby at_136) rfl ?_
                                exact kt
                              exact ⟨_, (if_pos hc128_1).symm, K88⟩
                            · have K89 : ∀ t, Steps p.tables e below (T80.setTop (mkF m 138 #[.val (.long q0), .second, .val (.long q1), .second, .val (.long q2), .second, .val (.long q3), .second, .val (.ref b0), .val (.int v97_1), .val (.int v106_1), .val (.int j122_s0_1), .unset] [(.int v106_1)])) t → P0 t := by
                                intro t kt
                                refine K87 t ?_
                                show Steps p.tables e below (T80.setTop (mkF m 128 #[.val (.long q0), .second, .val (.long q1), .second, .val (.long q2), .second, .val (.long q3), .second, .val (.ref b0), .val (.int v97_1), .val (.int v106_1), .val (.int j122_s0_1), .unset] [(.int (lcmpW q1 q2))])) t
                                refine XS.ifNo X80.here hx rfl (hb hby at_128) rfl ((if0 _ _).trans (flt (fun q => hc128_1 ((lw_gt q1 q2).mp q))).2.2.1) ?_
                                show Steps p.tables e below (T80.setTop (mkF m 131 #[.val (.long q0), .second, .val (.long q1), .second, .val (.long q2), .second, .val (.long q3), .second, .val (.ref b0), .val (.int v97_1), .val (.int v106_1), .val (.int j122_s0_1), .unset] [])) t
                                refine XS.iload X80.here hx rfl (hb hby at_131) rfl ?_
                                show Steps p.tables e below (T80.setTop (mkF m 133 #[.val (.long q0), .second, .val (.long q1), .second, .val (.long q2), .second, .val (.long q3), .second, .val (.ref b0), .val (.int v97_1), .val (.int v106_1), .val (.int j122_s0_1), .unset] [(.int v106_1)])) t
                                refine XS.goto X80.here hx rfl (pc0 := 133) (pc' := 138) rfl (hb hby at_133) (by decide) (by decide) ?_
                                exact kt
                              exact ⟨_, (if_neg hc128_1).symm, K89⟩
                          have K91 : ∀ t, Steps p.tables e below (T80.setTop (mkF m 142 #[.val (.long q0), .second, .val (.long q1), .second, .val (.long q2), .second, .val (.long q3), .second, .val (.ref b0), .val (.int v97_1), .val (.int v106_1), .val (.int j122_s0_1), .val (.int j138_s0_1)] [(.int j138_s0_1)])) t → P0 t := by
                            intro t kt
                            refine K90 t ?_
                            show Steps p.tables e below (T80.setTop (mkF m 138 #[.val (.long q0), .second, .val (.long q1), .second, .val (.long q2), .second, .val (.long q3), .second, .val (.ref b0), .val (.int v97_1), .val (.int v106_1), .val (.int j122_s0_1), .unset] [(.int j138_s0_1)])) t
                            refine XS.istore X80.here hx rfl (hb hby at_138) rfl (l' := #[.val (.long q0), .second, .val (.long q1), .second, .val (.long q2), .second, .val (.long q3), .second, .val (.ref b0), .val (.int v97_1), .val (.int v106_1), .val (.int j122_s0_1), .val (.int j138_s0_1)]) rfl ?_
                            show Steps p.tables e below (T80.setTop (mkF m 140 #[.val (.long q0), .second, .val (.long q1), .second, .val (.long q2), .second, .val (.long q3), .second, .val (.ref b0), .val (.int v97_1), .val (.int v106_1), .val (.int j122_s0_1), .val (.int j138_s0_1)] [])) t
                            refine XS.iload X80.here hx rfl (hb hby at_140) rfl ?_
                            exact kt
                          obtain ⟨jx142_1, pcx142, Lx142, Sx142, T110, lc111, hjx142_1, X112, e113, N114, hdx142, K115⟩ : ∃ (jx142_1 : Int32) (pcx142 : Nat) (Lx142 : Array Slot) (Sx142 : List Value) (T110 : State) (lc111 : List Loc), jx142_1 = (if j138_s0_1 = (0 : Int32) then (if q0 = q0 then (1 : Int32) else (0 : Int32)) else (if j122_s0_1 = (0 : Int32) then (0 : Int32) else (if q0 = q0 then (1 : Int32) else (0 : Int32)))) ∧ Stand p l e room_1 (s.setVm T6.vm) m #[(.long q0), (.long q1), (.long q2), (.long q3)] below meth c T110 lc111 4 16 ∧ T110.heap = h28 ∧ Fr n0 lc111 ∧ decode c.code pcx142 = .ok (.ireturn, 1) ∧ ∀ t, Steps p.tables e below (T110.setTop (mkF m pcx142 Lx142 ((.int jx142_1) :: Sx142))) t → P0 t := by
                            by_cases hc142_1 : j138_s0_1 = (0 : Int32)
                            · obtain ⟨T92, X92, e92, st92⟩ := getF X80 hx hZ hown (host := "") (Or.inl (hw _ (List.mem_of_getElem? (i := 33) rfl))) Via.refl e80 F31 (g := (mkF m 154 #[.val (.long q0), .second, .val (.long q1), .second, .val (.long q2), .second, .val (.long q3), .second, .val (.ref b0), .val (.int v97_1), .val (.int v106_1), .val (.int j122_s0_1), .val (.int j138_s0_1)] [(.ref b0)])) rfl rfl (hb hby at_154)
                              have K93 : ∀ t, Steps p.tables e below (T92.setTop (mkF m 159 #[.val (.long q0), .second, .val (.long q1), .second, .val (.long q2), .second, .val (.long q3), .second, .val (.ref b0), .val (.int v97_1), .val (.int v106_1), .val (.int j122_s0_1), .val (.int j138_s0_1)] [(.int (lcmpW q0 q0))])) t → P0 t := by
                                intro t kt
                                refine K91 t ?_
                                show Steps p.tables e below (T80.setTop (mkF m 142 #[.val (.long q0), .second, .val (.long q1), .second, .val (.long q2), .second, .val (.long q3), .second, .val (.ref b0), .val (.int v97_1), .val (.int v106_1), .val (.int j122_s0_1), .val (.int j138_s0_1)] [(.int j138_s0_1)])) t
                                refine XS.ifYes X80.here hx rfl (pc0 := 142) (pc' := 152) rfl (hb hby at_142) rfl ((if0 _ _).trans (teq hc142_1).1) (by decide) (by decide) ?_
                                show Steps p.tables e below (T80.setTop (mkF m 152 #[.val (.long q0), .second, .val (.long q1), .second, .val (.long q2), .second, .val (.long q3), .second, .val (.ref b0), .val (.int v97_1), .val (.int v106_1), .val (.int j122_s0_1), .val (.int j138_s0_1)] [])) t
                                refine XS.aload X80.here hx rfl (hb hby at_152) rfl rfl ?_
                                show Steps p.tables e below (T80.setTop (mkF m 154 #[.val (.long q0), .second, .val (.long q1), .second, .val (.long q2), .second, .val (.long q3), .second, .val (.ref b0), .val (.int v97_1), .val (.int v106_1), .val (.int j122_s0_1), .val (.int j138_s0_1)] [(.ref b0)])) t
                                refine st92 _ ?_
                                show Steps p.tables e below (T92.setTop (mkF m 157 #[.val (.long q0), .second, .val (.long q1), .second, .val (.long q2), .second, .val (.long q3), .second, .val (.ref b0), .val (.int v97_1), .val (.int v106_1), .val (.int j122_s0_1), .val (.int j138_s0_1)] [(.long q0)])) t
                                refine XS.lloadN X92.here hx rfl (hb hby at_157) rfl ?_
                                show Steps p.tables e below (T92.setTop (mkF m 158 #[.val (.long q0), .second, .val (.long q1), .second, .val (.long q2), .second, .val (.long q3), .second, .val (.ref b0), .val (.int v97_1), .val (.int v106_1), .val (.int j122_s0_1), .val (.int j138_s0_1)] [(.long q0), (.long q0)])) t
                                refine XS.lcmp X92.here hx rfl (hb hby at_158) rfl ?_
                                exact kt
                              obtain ⟨jx159_2, pcx159, Lx159, Sx159, hjx159_2, hdx159, K96⟩ : ∃ (jx159_2 : Int32) (pcx159 : Nat) (Lx159 : Array Slot) (Sx159 : List Value), jx159_2 = (if q0 = q0 then (1 : Int32) else (0 : Int32)) ∧ decode c.code pcx159 = .ok (.ireturn, 1) ∧ ∀ t, Steps p.tables e below (T92.setTop (mkF m pcx159 Lx159 ((.int jx159_2) :: Sx159))) t → P0 t := by
                                by_cases hc159_2 : q0 = q0
                                · have K94 : ∀ t, Steps p.tables e below (T92.setTop (mkF m 165 #[.val (.long q0), .second, .val (.long q1), .second, .val (.long q2), .second, .val (.long q3), .second, .val (.ref b0), .val (.int v97_1), .val (.int v106_1), .val (.int j122_s0_1), .val (.int j138_s0_1)] [(.int (1 : Int32))])) t → P0 t := by
                                    intro t kt
                                    refine K93 t ?_
                                    show Steps p.tables e below (T92.setTop (mkF m 159 #[.val (.long q0), .second, .val (.long q1), .second, .val (.long q2), .second, .val (.long q3), .second, .val (.ref b0), .val (.int v97_1), .val (.int v106_1), .val (.int j122_s0_1), .val (.int j138_s0_1)] [(.int (lcmpW q0 q0))])) t
                                    refine XS.ifYes X92.here hx rfl (pc0 := 159) (pc' := 164) rfl (hb hby at_159) rfl ((if0 _ _).trans (teq ((lw_eq q0 q0).mpr hc159_2)).1) (by decide) (by decide) ?_
                                    show Steps p.tables e below (T92.setTop (mkF m 164 #[.val (.long q0), .second, .val (.long q1), .second, .val (.long q2), .second, .val (.long q3), .second, .val (.ref b0), .val (.int v97_1), .val (.int v106_1), .val (.int j122_s0_1), .val (.int j138_s0_1)] [])) t
                                    refine XS.iconst X92.here hx rfl (hb hby at_164) ?_
                                    exact kt
                                  exact ⟨_, _, _, _, (if_pos hc159_2).symm, (hb hby at_165), K94⟩
                                · have K95 : ∀ t, Steps p.tables e below (T92.setTop (mkF m 163 #[.val (.long q0), .second, .val (.long q1), .second, .val (.long q2), .second, .val (.long q3), .second, .val (.ref b0), .val (.int v97_1), .val (.int v106_1), .val (.int j122_s0_1), .val (.int j138_s0_1)] [(.int (0 : Int32))])) t → P0 t := by
                                    intro t kt
                                    refine K93 t ?_
                                    show Steps p.tables e below (T92.setTop (mkF m 159 #[.val (.long q0), .second, .val (.long q1), .second, .val (.long q2), .second, .val (.long q3), .second, .val (.ref b0), .val (.int v97_1), .val (.int v106_1), .val (.int j122_s0_1), .val (.int j138_s0_1)] [(.int (lcmpW q0 q0))])) t
                                    refine XS.ifNo X92.here hx rfl (hb hby at_159) rfl ((if0 _ _).trans (feq (fun q => hc159_2 ((lw_eq q0 q0).mp q))).1) ?_
                                    show Steps p.tables e below (T92.setTop (mkF m 162 #[.val (.long q0), .second, .val (.long q1), .second, .val (.long q2), .second, .val (.long q3), .second, .val (.ref b0), .val (.int v97_1), .val (.int v106_1), .val (.int j122_s0_1), .val (.int j138_s0_1)] [])) t
                                    refine XS.iconst X92.here hx rfl (hb hby at_162) ?_
                                    exact kt
                                  exact ⟨_, _, _, _, (if_neg hc159_2).symm, (hb hby at_163), K95⟩
                              subst hjx159_2
                              exact ⟨_, _, _, _, _, _, (if_pos hc142_1).symm, X92, e92, N80, hdx159, K96⟩
                            · have K97 : ∀ t, Steps p.tables e below (T80.setTop (mkF m 147 #[.val (.long q0), .second, .val (.long q1), .second, .val (.long q2), .second, .val (.long q3), .second, .val (.ref b0), .val (.int v97_1), .val (.int v106_1), .val (.int j122_s0_1), .val (.int j138_s0_1)] [(.int j122_s0_1)])) t → P0 t := by
                                intro t kt
                                refine K91 t ?_
                                show Steps p.tables e below (T80.setTop (mkF m 142 #[.val (.long q0), .second, .val (.long q1), .second, .val (.long q2), .second, .val (.long q3), .second, .val (.ref b0), .val (.int v97_1), .val (.int v106_1), .val (.int j122_s0_1), .val (.int j138_s0_1)] [(.int j138_s0_1)])) t
                                refine XS.ifNo X80.here hx rfl (hb hby at_142) rfl ((if0 _ _).trans (feq hc142_1).1) ?_
                                show Steps p.tables e below (T80.setTop (mkF m 145 #[.val (.long q0), .second, .val (.long q1), .second, .val (.long q2), .second, .val (.long q3), .second, .val (.ref b0), .val (.int v97_1), .val (.int v106_1), .val (.int j122_s0_1), .val (.int j138_s0_1)] [])) t
                                refine XS.iload X80.here hx rfl (hb hby at_145) rfl ?_
                                exact kt
                              obtain ⟨jx147_1, pcx147, Lx147, Sx147, T104, lc105, hjx147_1, X106, e107, N108, hdx147, K109⟩ : ∃ (jx147_1 : Int32) (pcx147 : Nat) (Lx147 : Array Slot) (Sx147 : List Value) (T104 : State) (lc105 : List Loc), jx147_1 = (if j122_s0_1 = (0 : Int32) then (0 : Int32) else (if q0 = q0 then (1 : Int32) else (0 : Int32))) ∧ Stand p l e room_1 (s.setVm T6.vm) m #[(.long q0), (.long q1), (.long q2), (.long q3)] below meth c T104 lc105 4 16 ∧ T104.heap = h28 ∧ Fr n0 lc105 ∧ decode c.code pcx147 = .ok (.ireturn, 1) ∧ ∀ t, Steps p.tables e below (T104.setTop (mkF m pcx147 Lx147 ((.int jx147_1) :: Sx147))) t → P0 t := by
                                by_cases hc147_1 : j122_s0_1 = (0 : Int32)
                                · have K98 : ∀ t, Steps p.tables e below (T80.setTop (mkF m 151 #[.val (.long q0), .second, .val (.long q1), .second, .val (.long q2), .second, .val (.long q3), .second, .val (.ref b0), .val (.int v97_1), .val (.int v106_1), .val (.int j122_s0_1), .val (.int j138_s0_1)] [(.int (0 : Int32))])) t → P0 t := by
                                    intro t kt
                                    refine K97 t ?_
                                    show Steps p.tables e below (T80.setTop (mkF m 147 #[.val (.long q0), .second, .val (.long q1), .second, .val (.long q2), .second, .val (.long q3), .second, .val (.ref b0), .val (.int v97_1), .val (.int v106_1), .val (.int j122_s0_1), .val (.int j138_s0_1)] [(.int j122_s0_1)])) t
                                    refine XS.ifNo X80.here hx rfl (hb hby at_147) rfl ((if0 _ _).trans (teq hc147_1).2) ?_
                                    show Steps p.tables e below (T80.setTop (mkF m 150 #[.val (.long q0), .second, .val (.long q1), .second, .val (.long q2), .second, .val (.long q3), .second, .val (.ref b0), .val (.int v97_1), .val (.int v106_1), .val (.int j122_s0_1), .val (.int j138_s0_1)] [])) t
                                    refine XS.iconst X80.here hx rfl (hb hby at_150) ?_
                                    exact kt
                                  exact ⟨_, _, _, _, _, _, (if_pos hc147_1).symm, X80, e80, N80, (hb hby at_151), K98⟩
                                · obtain ⟨T99, X99, e99, st99⟩ := getF X80 hx hZ hown (host := "") (Or.inl (hw _ (List.mem_of_getElem? (i := 33) rfl))) Via.refl e80 F31 (g := (mkF m 154 #[.val (.long q0), .second, .val (.long q1), .second, .val (.long q2), .second, .val (.long q3), .second, .val (.ref b0), .val (.int v97_1), .val (.int v106_1), .val (.int j122_s0_1), .val (.int j138_s0_1)] [(.ref b0)])) rfl rfl (hb hby at_154)
                                  have K100 : ∀ t, Steps p.tables e below (T99.setTop (mkF m 159 #[.val (.long q0), .second, .val (.long q1), .second, .val (.long q2), .second, .val (.long q3), .second, .val (.ref b0), .val (.int v97_1), .val (.int v106_1), .val (.int j122_s0_1), .val (.int j138_s0_1)] [(.int (lcmpW q0 q0))])) t → P0 t := by
                                    intro t kt
                                    refine K97 t ?_
                                    show Steps p.tables e below (T80.setTop (mkF m 147 #[.val (.long q0), .second, .val (.long q1), .second, .val (.long q2), .second, .val (.long q3), .second, .val (.ref b0), .val (.int v97_1), .val (.int v106_1), .val (.int j122_s0_1), .val (.int j138_s0_1)] [(.int j122_s0_1)])) t
                                    refine XS.ifYes X80.here hx rfl (pc0 := 147) (pc' := 152) rfl (hb hby at_147) rfl ((if0 _ _).trans (feq hc147_1).2) (by decide) (by decide) ?_
                                    show Steps p.tables e below (T80.setTop (mkF m 152 #[.val (.long q0), .second, .val (.long q1), .second, .val (.long q2), .second, .val (.long q3), .second, .val (.ref b0), .val (.int v97_1), .val (.int v106_1), .val (.int j122_s0_1), .val (.int j138_s0_1)] [])) t
                                    refine XS.aload X80.here hx rfl (hb hby at_152) rfl rfl ?_
                                    show Steps p.tables e below (T80.setTop (mkF m 154 #[.val (.long q0), .second, .val (.long q1), .second, .val (.long q2), .second, .val (.long q3), .second, .val (.ref b0), .val (.int v97_1), .val (.int v106_1), .val (.int j122_s0_1), .val (.int j138_s0_1)] [(.ref b0)])) t
                                    refine st99 _ ?_
                                    show Steps p.tables e below (T99.setTop (mkF m 157 #[.val (.long q0), .second, .val (.long q1), .second, .val (.long q2), .second, .val (.long q3), .second, .val (.ref b0), .val (.int v97_1), .val (.int v106_1), .val (.int j122_s0_1), .val (.int j138_s0_1)] [(.long q0)])) t
                                    refine XS.lloadN X99.here hx rfl (hb hby at_157) rfl ?_
                                    show Steps p.tables e below (T99.setTop (mkF m 158 #[.val (.long q0), .second, .val (.long q1), .second, .val (.long q2), .second, .val (.long q3), .second, .val (.ref b0), .val (.int v97_1), .val (.int v106_1), .val (.int j122_s0_1), .val (.int j138_s0_1)] [(.long q0), (.long q0)])) t
                                    refine XS.lcmp X99.here hx rfl (hb hby at_158) rfl ?_
                                    exact kt
                                  obtain ⟨jx159_3, pcx159, Lx159, Sx159, hjx159_3, hdx159, K103⟩ : ∃ (jx159_3 : Int32) (pcx159 : Nat) (Lx159 : Array Slot) (Sx159 : List Value), jx159_3 = (if q0 = q0 then (1 : Int32) else (0 : Int32)) ∧ decode c.code pcx159 = .ok (.ireturn, 1) ∧ ∀ t, Steps p.tables e below (T99.setTop (mkF m pcx159 Lx159 ((.int jx159_3) :: Sx159))) t → P0 t := by
                                    by_cases hc159_3 : q0 = q0
                                    · have K101 : ∀ t, Steps p.tables e below (T99.setTop (mkF m 165 #[.val (.long q0), .second, .val (.long q1), .second, .val (.long q2), .second, .val (.long q3), .second, .val (.ref b0), .val (.int v97_1), .val (.int v106_1), .val (.int j122_s0_1), .val (.int j138_s0_1)] [(.int (1 : Int32))])) t → P0 t := by
                                        intro t kt
                                        refine K100 t ?_
                                        show Steps p.tables e below (T99.setTop (mkF m 159 #[.val (.long q0), .second, .val (.long q1), .second, .val (.long q2), .second, .val (.long q3), .second, .val (.ref b0), .val (.int v97_1), .val (.int v106_1), .val (.int j122_s0_1), .val (.int j138_s0_1)] [(.int (lcmpW q0 q0))])) t
                                        refine XS.ifYes X99.here hx rfl (pc0 := 159) (pc' := 164) rfl (hb hby at_159) rfl ((if0 _ _).trans (teq ((lw_eq q0 q0).mpr hc159_3)).1) (by decide) (by decide) ?_
                                        show Steps p.tables e below (T99.setTop (mkF m 164 #[.val (.long q0), .second, .val (.long q1), .second, .val (.long q2), .second, .val (.long q3), .second, .val (.ref b0), .val (.int v97_1), .val (.int v106_1), .val (.int j122_s0_1), .val (.int j138_s0_1)] [])) t
                                        refine XS.iconst X99.here hx rfl (hb hby at_164) ?_
                                        exact kt
                                      exact ⟨_, _, _, _, (if_pos hc159_3).symm, (hb hby at_165), K101⟩
                                    · have K102 : ∀ t, Steps p.tables e below (T99.setTop (mkF m 163 #[.val (.long q0), .second, .val (.long q1), .second, .val (.long q2), .second, .val (.long q3), .second, .val (.ref b0), .val (.int v97_1), .val (.int v106_1), .val (.int j122_s0_1), .val (.int j138_s0_1)] [(.int (0 : Int32))])) t → P0 t := by
                                        intro t kt
                                        refine K100 t ?_
                                        show Steps p.tables e below (T99.setTop (mkF m 159 #[.val (.long q0), .second, .val (.long q1), .second, .val (.long q2), .second, .val (.long q3), .second, .val (.ref b0), .val (.int v97_1), .val (.int v106_1), .val (.int j122_s0_1), .val (.int j138_s0_1)] [(.int (lcmpW q0 q0))])) t
                                        refine XS.ifNo X99.here hx rfl (hb hby at_159) rfl ((if0 _ _).trans (feq (fun q => hc159_3 ((lw_eq q0 q0).mp q))).1) ?_
                                        show Steps p.tables e below (T99.setTop (mkF m 162 #[.val (.long q0), .second, .val (.long q1), .second, .val (.long q2), .second, .val (.long q3), .second, .val (.ref b0), .val (.int v97_1), .val (.int v106_1), .val (.int j122_s0_1), .val (.int j138_s0_1)] [])) t
                                        refine XS.iconst X99.here hx rfl (hb hby at_162) ?_
                                        exact kt
                                      exact ⟨_, _, _, _, (if_neg hc159_3).symm, (hb hby at_163), K102⟩
                                  subst hjx159_3
                                  exact ⟨_, _, _, _, _, _, (if_neg hc147_1).symm, X99, e99, N80, hdx159, K103⟩
                              subst hjx147_1
                              exact ⟨_, _, _, _, _, _, (if_neg hc142_1).symm, X106, e107, N108, hdx147, K109⟩
                          subst hv97_1
                          subst hv106_1
                          subst hj122_s0_1
                          subst hj138_s0_1
                          subst hjx142_1
                          exact ⟨_, _, _, _, _, _, (if_neg hc86).symm, X112, e113, N114, hdx142, K115⟩
                      subst hjx86
                      exact ⟨_, _, _, _, _, _, (if_neg hc75).symm, X118, e119, N120, hdx86, K121⟩
                  subst hjx75
                  exact ⟨_, _, _, _, _, _, (if_pos hc65).symm, X124, e125, N126, hdx75, K127⟩
                · have K128 : ∀ t, Steps p.tables e below (T32.setTop (mkF m 69 #[.val (.long q0), .second, .val (.long q1), .second, .val (.long q2), .second, .val (.long q3), .second, .val (.ref b0), .unset, .unset, .unset, .unset] [(.int (0 : Int32))])) t → P0 t := by
                    intro t kt
                    refine K33 t ?_
                    show Steps p.tables e below (T32.setTop (mkF m 65 #[.val (.long q0), .second, .val (.long q1), .second, .val (.long q2), .second, .val (.long q3), .second, .val (.ref b0), .unset, .unset, .unset, .unset] [(.int (fLiv q0 q0))])) t
                    refine XS.ifNo X32.here hx rfl (hb hby at_65) rfl ((if0 _ _).trans (feq hc65).1) ?_
                    show Steps p.tables e below (T32.setTop (mkF m 68 #[.val (.long q0), .second, .val (.long q1), .second, .val (.long q2), .second, .val (.long q3), .second, .val (.ref b0), .unset, .unset, .unset, .unset] [])) t
                    refine XS.iconst X32.here hx rfl (hb hby at_68) ?_
                    exact kt
                  exact ⟨_, _, _, _, _, _, (if_neg hc65).symm, X32, e32, N32, (hb hby at_69), K128⟩
              subst hjx65
              exact ⟨_, _, _, _, _, _, _, (if_pos hc48).symm, X131, e132, N133, Z28, Y28, hdx65, K134⟩
            · have K135 : ∀ t, Steps p.tables e below (T26.setTop (mkF m 52 #[.val (.long q0), .second, .val (.long q1), .second, .val (.long q2), .second, .val (.long q3), .second, .val (.ref b0), .unset, .unset, .unset, .unset] [(.int (0 : Int32))])) t → P0 t := by
                intro t kt
                refine K27 t ?_
                show Steps p.tables e below (T26.setTop (mkF m 48 #[.val (.long q0), .second, .val (.long q1), .second, .val (.long q2), .second, .val (.long q3), .second, .val (.ref b0), .unset, .unset, .unset, .unset] [(.int (fLiv (9223372036854775807 : Int64) (-9223372036854775808 : Int64)))])) t
                refine XS.ifNo X26.here hx rfl (hb hby at_48) rfl ((if0 _ _).trans (feq hc48).1) ?_
                show Steps p.tables e below (T26.setTop (mkF m 51 #[.val (.long q0), .second, .val (.long q1), .second, .val (.long q2), .second, .val (.long q3), .second, .val (.ref b0), .unset, .unset, .unset, .unset] [])) t
                refine XS.iconst X26.here hx rfl (hb hby at_51) ?_
                exact kt
              exact ⟨_, _, _, _, _, _, _, (if_neg hc48).symm, X26, e26, N26, Z18, Y18, (hb hby at_52), K135⟩
          subst hjx48
          exact ⟨_, _, _, _, _, _, _, (if_pos hc35).symm, X139, e140, N141, Z142, Y143, hdx48, K144⟩
        · have K145 : ∀ t, Steps p.tables e below (T24.setTop (mkF m 39 #[.val (.long q0), .second, .val (.long q1), .second, .val (.long q2), .second, .val (.long q3), .second, .val (.ref b0), .unset, .unset, .unset, .unset] [(.int (0 : Int32))])) t → P0 t := by
            intro t kt
            refine K25 t ?_
            show Steps p.tables e below (T24.setTop (mkF m 35 #[.val (.long q0), .second, .val (.long q1), .second, .val (.long q2), .second, .val (.long q3), .second, .val (.ref b0), .unset, .unset, .unset, .unset] [(.int (fLiv (-9223372036854775808 : Int64) (-9223372036854775808 : Int64)))])) t
            refine XS.ifNo X24.here hx rfl (hb hby at_35) rfl ((if0 _ _).trans (feq hc35).1) ?_
            show Steps p.tables e below (T24.setTop (mkF m 38 #[.val (.long q0), .second, .val (.long q1), .second, .val (.long q2), .second, .val (.long q3), .second, .val (.ref b0), .unset, .unset, .unset, .unset] [])) t
            refine XS.iconst X24.here hx rfl (hb hby at_38) ?_
            exact kt
          exact ⟨_, _, _, _, _, _, _, (if_neg hc35).symm, X24, e24, N24, Z18, Y18, (hb hby at_39), K145⟩
      subst hjx35
      exact ⟨_, _, _, _, _, _, _, (if_pos hc22).symm, X149, e150, N151, Z152, Y153, hdx35, K154⟩
    · have K155 : ∀ t, Steps p.tables e below (T22.setTop (mkF m 26 #[.val (.long q0), .second, .val (.long q1), .second, .val (.long q2), .second, .val (.long q3), .second, .val (.ref b0), .unset, .unset, .unset, .unset] [(.int (0 : Int32))])) t → P0 t := by
        intro t kt
        refine K23 t ?_
        show Steps p.tables e below (T22.setTop (mkF m 22 #[.val (.long q0), .second, .val (.long q1), .second, .val (.long q2), .second, .val (.long q3), .second, .val (.ref b0), .unset, .unset, .unset, .unset] [(.int (fLiv q1 (-9223372036854775808 : Int64)))])) t
        refine XS.ifNo X22.here hx rfl (hb hby at_22) rfl ((if0 _ _).trans (feq hc22).1) ?_
        show Steps p.tables e below (T22.setTop (mkF m 25 #[.val (.long q0), .second, .val (.long q1), .second, .val (.long q2), .second, .val (.long q3), .second, .val (.ref b0), .unset, .unset, .unset, .unset] [])) t
        refine XS.iconst X22.here hx rfl (hb hby at_25) ?_
        exact kt
      exact ⟨_, _, _, _, _, _, _, (if_neg hc22).symm, X22, e22, N22, Z18, Y18, (hb hby at_26), K155⟩
  have hres : jx22 = 1 := own_plain q0 q1 q2 q3 f7 jx22 hf7 hjx22
  obtain ⟨fs, hr, hrun, hended, hW⟩ := X159.leaveW hS6 (by rw [e160]; exact Y163) (v := some (.int (1 : Int32))) (fun h => by rw [Bd.returns] at h; cases h)
  refine ⟨_, _, ?_, hrun, hended, _, _, rfl, ?_, hW.1, hW.2.1, hW.2.2.1, hW.2.2.2.mono (by decide) (by decide)⟩
  · rw [hres] at K164
    have q := K164 _ (retN X159 hx (t := .boolean) Bd.returns (by simp) hdx22 hr)
    rw [hP0] at q; exact q
  · exact ⟨rfl, N161⟩
set_option maxRecDepth 65536 in
set_option maxHeartbeats 40000000 in
theorem comes_1 {Post : Tables → Env → Array Value → State → Outcome → State → Prop} (hpost : ∀ tb e args s v u, (limb_1_1.after args s (.returned v) u = true ∧ limb_1_2.after args s (.returned v) u = true ∧ True) → ReturnedEndW s (.returned v) u (Jvm.fieldLocs frame_1_writes args s ++ Jvm.arrayLocs frame_1_arrays args s ++ Jvm.staticLocs frame_1_statics s) 16 1152 → Post tb e args s (.returned v) u) :
    ArmFor flags0 classFile x code maxLocals ret World_1 tables_1 room_1 Calls_1 rest_1 Pre_1 Post := by
  intro l hfl _ _ p e ha hc hk s m args below hf hA hF happ hP
  obtain ⟨hcalls, hrest, hpre⟩ := hP
  obtain ⟨-, -, -, hnamed, -, -, -, hat⟩ := (Spec.applies_iff hf).mp happ
  obtain ⟨hg, hn⟩ := and_e (Cond.before_iff.mp (show (Jvm.Cond.and given_1 narrow_1).before args s = true from hpre))
  obtain ⟨gc, gr0⟩ := and_e hg
  obtain ⟨ga0, gr1⟩ := and_e gr0
  obtain ⟨ga1, gr2⟩ := and_e gr1
  obtain ⟨ga2, gr3⟩ := and_e gr2
  obtain ⟨w0, w1, w2, w3, rfl⟩ : ∃ w0 w1 w2 w3 : Value, args = #[w0, w1, w2, w3] := by
    have hs : args.size = 4 := by simpa [Cond.value, given_1] using gc
    obtain ⟨L⟩ := args
    match L, hs with
    | [w0, w1, w2, w3], _ => exact ⟨w0, w1, w2, w3, rfl⟩
  have hw := fun d (hd : d ∈ tables_1) => atoms_spec (ws := Jvm.Cond.code x code maxLocals ret :: tables_1) hat d (List.mem_cons_of_mem _ hd)
  obtain ⟨i0, ei0⟩ := isL_v ga0
  obtain rfl : w0 = (.long i0) := Option.some.inj ei0
  obtain ⟨i1, ei1⟩ := isL_v ga1
  obtain rfl : w1 = (.long i1) := Option.some.inj ei1
  obtain ⟨i2, ei2⟩ := isL_v ga2
  obtain rfl : w2 = (.long i2) := Option.some.inj ei2
  obtain ⟨i3, ei3⟩ := isL_v gr3
  obtain rfl : w3 = (.long i3) := Option.some.inj ei3
  obtain ⟨n, o, h1, h2, h3, _, L, rfl, ⟨rfl, N⟩, hq⟩ := rm_law l s _ hw tables_1 i0 i1 i2 i3 s.heap s.heap.size (Nat.le_refl _) p e ha hc hk s m _ below hf ((Spec.applies_iff_loose hf).mp happ).1 ⟨rfl, State.Warmed39.refl s, rfl⟩ trivial
  refine ⟨n, _, h1, h2, h3, hpost _ _ _ _ _ _ ⟨Cond.after_iff.mpr rfl, Cond.after_iff.mpr (eq_i res_at (Term.int_eval (1)) rfl), trivial⟩ ⟨hq.1, hq.2.1, hq.2.2.1, (hq.2.2.2.sift fun y hy => Or.inr (N y hy)).mono (by decide) (by decide)⟩⟩
theorem main_1_1 : Claimed_1_1 := comes_1 fun _ _ _ _ _ _ h hF => ⟨h.1, hF⟩
theorem main_1_2 : Claimed_1_2 := comes_1 fun _ _ _ _ _ _ h hF => ⟨h.2.1, hF⟩
end Jvm.Pilot.@@N@@
namespace Jvm.Pilot.@@N@@
open Jvm Jvm.ClassFile Sem Op Lib Jvm.Free Jvm.Stand Jvm.Pilot.@@N@@.Jvm.D
/-! MADE BY PROGRAM (witnessworld.py) out of the Statement's table words and the real class files: 14 classes; the members and pool entries that the words name. The judged class is class 1, her method 1. -/
namespace start1
open Jvm.ClassFile
def u (s : String) : CpInfo := .utf8 (stringToUtf16 s)
/-- a pool by its gaps: so many unusable entries, then the entry; so many at the end -/
def gap : Nat → List CpInfo → List CpInfo
  | 0, r => r
  | n + 1, r => .unusable :: gap n r
def poolList (es : List (Nat × CpInfo)) (last : Nat) : List CpInfo := es.foldr (fun e r => gap e.1 (e.2 :: r)) (gap last [])
def pool (es : List (Nat × CpInfo)) (last : Nat) : Array CpInfo := ⟨poolList es last⟩
def fileOf (pool : Array CpInfo) (this : Nat) (attrs : Array Attribute := #[]) (ms : Array MethodInfo := #[]) (fl : Nat := 33) (sup : Nat := 0) (ifs : Array Nat := #[]) (fds : Array FieldInfo := #[]) : ClassFile where
  minorVersion := 0
  majorVersion := 65
  constantPool := pool
  accessFlags := fl
  thisClass := this
  superClass := sup
  interfaces := ifs
  fields := fds
  methods := ms
  attributes := attrs
def plain (name : String) (sup : Option ClassId) : Class where
  name := name
  kind := .ordinary
  loader := none
  accessFlags := 33
  super := sup
  interfaces := #[]
  cf := none
  fields := #[]
  methods := #[]
  instanceTypes := #[]
  staticTypes := #[]
  resolved := #[]
  callSites := []
  init := .initialized
  statics := none
  mirror := none

def pool0 : Array CpInfo := pool [(5, u "<init>"), (0, u "()V"), (1, .class_ 10), (1, u "java/lang/Object")] 113

def k0c0 : Code := { maxStack := 0, maxLocals := 1, code := object_method_1_code, exceptionTable := #[], attributes := #[] }
def k0m0 : Method := { name := "<init>", desc := "()V", sig := { parameters := [], returnType := none }, accessFlags := 1, code := some k0c0 }
/-- java/lang/Object -/
def k0 : Class := { plain "java/lang/Object" none with
  accessFlags := 33
  interfaces := #[]
  cf := some (fileOf pool0 8 #[] #[{ accessFlags := 1, nameIndex := 5, descriptorIndex := 6, attributes := #[] }] 33 0 #[] #[])
  fields := #[]
  methods := #[k0m0]
  instanceTypes := #[]
  staticTypes := #[]
  resolved := Array.replicate 124 none
  statics := none }

def pool1 : Array CpInfo := pool [(2, .class_ 4), (1, u "java/lang/Object"), (0, u "<init>"), (0, u "()V"), (0, .class_ 8), (0, u "com/example/lease/lease/engine/Task"), (0, .string 10), (0, u "p"), (0, .methodref 7 12), (0, .nameAndType 5 13), (0, u "(Ljava/lang/String;[BJ)V"), (0, .methodref 7 15), (0, .nameAndType 16 17), (0, u "liveAt"), (0, u "(J)Z"), (2, .long 9223372036854775808), (1, .long 9223372036854775807), (1, .fieldref 7 25), (0, .nameAndType 26 27), (0, u "lapsesMs"), (0, u "J"), (0, .class_ 29), (0, u "com/example/lease/lease/engine/TaskLiveAtPinLaw"), (2, u "law"), (0, u "(JJJJ)Z")] 3

def k1m0 : Method := { name := "<init>", desc := "()V", sig := { parameters := [], returnType := none }, accessFlags := 1, code := none }
def k1c1 : Code := { maxStack := 6, maxLocals := 13, code := code, exceptionTable := #[], attributes := #[] }
def k1m1 : Method := { name := "law", desc := "(JJJJ)Z", sig := { parameters := [.long, .long, .long, .long], returnType := some .boolean }, accessFlags := 9, code := some k1c1 }
/-- com/example/lease/lease/engine/TaskLiveAtPinLaw -/
def k1 : Class := { plain "com/example/lease/lease/engine/TaskLiveAtPinLaw" (some 0) with
  accessFlags := 49
  interfaces := #[]
  cf := some (fileOf pool1 28 #[] #[{ accessFlags := 1, nameIndex := 5, descriptorIndex := 6, attributes := #[] }, { accessFlags := 9, nameIndex := 32, descriptorIndex := 33, attributes := #[] }] 49 2 #[] #[])
  fields := #[]
  methods := #[k1m0, k1m1]
  instanceTypes := #[]
  staticTypes := #[]
  resolved := Array.replicate 37 none
  statics := none }

def pool2 : Array CpInfo := pool [(1, .methodref 2 3), (0, .class_ 4), (0, .nameAndType 5 6), (0, u "java/lang/Object"), (0, u "<init>"), (0, u "()V"), (2, .long 9223372036854775808), (1, .fieldref 12 13), (0, .class_ 14), (0, .nameAndType 15 16), (0, u "com/example/lease/lease/engine/Task"), (0, u "lapsesMs"), (0, u "J"), (0, .fieldref 12 18), (0, .nameAndType 19 20), (0, u "pid"), (0, u "Ljava/lang/String;"), (0, .fieldref 12 22), (0, .nameAndType 23 24), (0, u "data"), (0, u "[B"), (0, .fieldref 12 26), (0, .nameAndType 27 16), (0, u "availableMs"), (0, u "lease"), (0, u "grantedMs"), (0, u "expiresMs"), (0, u "(Ljava/lang/String;[BJ)V"), (2, u "liveAt"), (0, u "(J)Z")] 3

def k2c0 : Code := { maxStack := 3, maxLocals := 5, code := prog_44_method_1_code, exceptionTable := #[], attributes := #[] }
def k2m0 : Method := { name := "<init>", desc := "(Ljava/lang/String;[BJ)V", sig := { parameters := [(.object "java/lang/String"), (.array .byte), .long], returnType := none }, accessFlags := 0, code := some k2c0 }
def k2c1 : Code := { maxStack := 4, maxLocals := 3, code := prog_44_method_2_code, exceptionTable := #[], attributes := #[] }
def k2m1 : Method := { name := "liveAt", desc := "(J)Z", sig := { parameters := [.long], returnType := some .boolean }, accessFlags := 0, code := some k2c1 }
/-- com/example/lease/lease/engine/Task -/
def k2 : Class := { plain "com/example/lease/lease/engine/Task" (some 0) with
  accessFlags := 48
  interfaces := #[]
  cf := some (fileOf pool2 12 #[] #[{ accessFlags := 0, nameIndex := 5, descriptorIndex := 31, attributes := #[] }, { accessFlags := 0, nameIndex := 34, descriptorIndex := 35, attributes := #[] }] 48 2 #[] #[{ accessFlags := 16, nameIndex := 19, descriptorIndex := 20, attributes := #[] }, { accessFlags := 16, nameIndex := 23, descriptorIndex := 24, attributes := #[] }, { accessFlags := 16, nameIndex := 27, descriptorIndex := 16, attributes := #[] }, { accessFlags := 0, nameIndex := 28, descriptorIndex := 20, attributes := #[] }, { accessFlags := 0, nameIndex := 29, descriptorIndex := 16, attributes := #[] }, { accessFlags := 0, nameIndex := 30, descriptorIndex := 16, attributes := #[] }, { accessFlags := 0, nameIndex := 15, descriptorIndex := 16, attributes := #[] }])
  fields := #[{ name := "pid", type := (.object "java/lang/String"), accessFlags := 16, slot := 0, constantValue := 0 }, { name := "data", type := (.array .byte), accessFlags := 16, slot := 1, constantValue := 0 }, { name := "availableMs", type := .long, accessFlags := 16, slot := 2, constantValue := 0 }, { name := "lease", type := (.object "java/lang/String"), accessFlags := 0, slot := 3, constantValue := 0 }, { name := "grantedMs", type := .long, accessFlags := 0, slot := 4, constantValue := 0 }, { name := "expiresMs", type := .long, accessFlags := 0, slot := 5, constantValue := 0 }, { name := "lapsesMs", type := .long, accessFlags := 0, slot := 6, constantValue := 0 }]
  methods := #[k2m0, k2m1]
  instanceTypes := #[(.object "java/lang/String"), (.array .byte), .long, (.object "java/lang/String"), .long, .long, .long]
  staticTypes := #[]
  resolved := Array.replicate 39 none
  statics := none }

def pool3 : Array CpInfo := pool [(1, .class_ 2), (0, u "java/io/Serializable"), (0, .class_ 4), (0, u "java/lang/Object")] 2

/-- java/io/Serializable -/
def k3 : Class := { plain "java/io/Serializable" (some 0) with
  accessFlags := 1537
  interfaces := #[]
  cf := some (fileOf pool3 1 #[] #[] 1537 3 #[] #[])
  fields := #[]
  methods := #[]
  instanceTypes := #[]
  staticTypes := #[]
  resolved := Array.replicate 7 none
  statics := none }

def pool4 : Array CpInfo := pool [(1, .class_ 2), (0, u "java/lang/Comparable"), (0, .class_ 4), (0, u "java/lang/Object")] 7

/-- java/lang/Comparable -/
def k4 : Class := { plain "java/lang/Comparable" (some 0) with
  accessFlags := 1537
  interfaces := #[]
  cf := some (fileOf pool4 1 #[] #[] 1537 3 #[] #[])
  fields := #[]
  methods := #[]
  instanceTypes := #[]
  staticTypes := #[]
  resolved := Array.replicate 12 none
  statics := none }

def pool5 : Array CpInfo := pool [(2, .class_ 4), (1, u "java/lang/CharSequence"), (42, .class_ 48), (0, u "java/lang/CharSequence$1CodePointIterator"), (10, .class_ 60), (0, u "java/lang/CharSequence$1CharIterator"), (5, .class_ 67), (0, u "java/lang/Object")] 63

/-- java/lang/CharSequence -/
def k5 : Class := { plain "java/lang/CharSequence" (some 0) with
  accessFlags := 1537
  interfaces := #[]
  cf := some (fileOf pool5 2 #[.nestMembers #[47, 59]] #[] 1537 66 #[] #[])
  fields := #[]
  methods := #[]
  instanceTypes := #[]
  staticTypes := #[]
  resolved := Array.replicate 131 none
  statics := none }

def pool6 : Array CpInfo := pool [(1, .class_ 2), (0, u "java/lang/constant/Constable"), (0, .class_ 4), (0, u "java/lang/Object")] 6

/-- java/lang/constant/Constable -/
def k6 : Class := { plain "java/lang/constant/Constable" (some 0) with
  accessFlags := 1537
  interfaces := #[]
  cf := some (fileOf pool6 1 #[] #[] 1537 3 #[] #[])
  fields := #[]
  methods := #[]
  instanceTypes := #[]
  staticTypes := #[]
  resolved := Array.replicate 11 none
  statics := none }

def pool7 : Array CpInfo := pool [(1, .class_ 2), (0, u "java/lang/constant/ConstantDesc"), (0, .class_ 4), (0, u "java/lang/Object")] 32

/-- java/lang/constant/ConstantDesc -/
def k7 : Class := { plain "java/lang/constant/ConstantDesc" (some 0) with
  accessFlags := 1537
  interfaces := #[]
  cf := some (fileOf pool7 1 #[] #[] 1537 3 #[] #[])
  fields := #[]
  methods := #[]
  instanceTypes := #[]
  staticTypes := #[]
  resolved := Array.replicate 37 none
  statics := none }

def pool8 : Array CpInfo := pool [(2, .class_ 4), (1, u "java/lang/Object"), (0, u "<init>"), (0, u "()V"), (3, .class_ 12), (1, u "java/lang/String"), (0, u "value"), (0, u "[B"), (2, u "coder"), (0, u "B"), (2, u "hash"), (0, u "I"), (2, u "hashIsZero"), (0, u "Z"), (13, u "COMPACT_STRINGS"), (534, .class_ 576), (0, u "java/lang/CharSequence"), (22, u "CASE_INSENSITIVE_ORDER"), (0, u "Ljava/util/Comparator;"), (500, u "serialPersistentFields"), (0, u "[Ljava/io/ObjectStreamField;"), (0, .class_ 1104), (0, u "java/lang/String$CaseInsensitiveComparator"), (1, .class_ 1107), (0, u "java/io/Serializable"), (0, .class_ 1109), (0, u "java/lang/Comparable"), (0, .class_ 1111), (0, u "java/lang/constant/Constable"), (0, .class_ 1113), (0, u "java/lang/constant/ConstantDesc"), (2, u "serialVersionUID"), (0, u "J"), (3, u "REPL"), (0, u "C"), (2, u "LATIN1"), (1, u "UTF16")] 323

def k8m0 : Method := { name := "<init>", desc := "()V", sig := { parameters := [], returnType := none }, accessFlags := 1, code := none }
/-- java/lang/String -/
def k8 : Class := { plain "java/lang/String" (some 0) with
  accessFlags := 49
  interfaces := #[3, 4, 5, 6, 7]
  cf := some (fileOf pool8 10 #[.nestMembers #[1103]] #[{ accessFlags := 1, nameIndex := 5, descriptorIndex := 6, attributes := #[] }] 49 2 #[1106, 1108, 575, 1110, 1112] #[{ accessFlags := 18, nameIndex := 13, descriptorIndex := 14, attributes := #[] }, { accessFlags := 18, nameIndex := 17, descriptorIndex := 18, attributes := #[] }, { accessFlags := 2, nameIndex := 21, descriptorIndex := 22, attributes := #[] }, { accessFlags := 2, nameIndex := 25, descriptorIndex := 26, attributes := #[] }, { accessFlags := 26, nameIndex := 1116, descriptorIndex := 1117, attributes := #[] }, { accessFlags := 24, nameIndex := 40, descriptorIndex := 26, attributes := #[] }, { accessFlags := 26, nameIndex := 1101, descriptorIndex := 1102, attributes := #[] }, { accessFlags := 26, nameIndex := 1121, descriptorIndex := 1122, attributes := #[] }, { accessFlags := 25, nameIndex := 599, descriptorIndex := 600, attributes := #[] }, { accessFlags := 24, nameIndex := 1125, descriptorIndex := 18, attributes := #[] }, { accessFlags := 24, nameIndex := 1127, descriptorIndex := 18, attributes := #[] }])
  fields := #[{ name := "value", type := (.array .byte), accessFlags := 18, slot := 0, constantValue := 0 }, { name := "coder", type := .byte, accessFlags := 18, slot := 1, constantValue := 0 }, { name := "hash", type := .int, accessFlags := 2, slot := 2, constantValue := 0 }, { name := "hashIsZero", type := .boolean, accessFlags := 2, slot := 3, constantValue := 0 }, { name := "serialVersionUID", type := .long, accessFlags := 26, slot := 0, constantValue := 0 }, { name := "COMPACT_STRINGS", type := .boolean, accessFlags := 24, slot := 1, constantValue := 0 }, { name := "serialPersistentFields", type := (.array (.object "java/io/ObjectStreamField")), accessFlags := 26, slot := 2, constantValue := 0 }, { name := "REPL", type := .char, accessFlags := 26, slot := 3, constantValue := 0 }, { name := "CASE_INSENSITIVE_ORDER", type := (.object "java/util/Comparator"), accessFlags := 25, slot := 4, constantValue := 0 }, { name := "LATIN1", type := .byte, accessFlags := 24, slot := 5, constantValue := 0 }, { name := "UTF16", type := .byte, accessFlags := 24, slot := 6, constantValue := 0 }]
  methods := #[k8m0]
  instanceTypes := #[(.array .byte), .byte, .int, .boolean]
  staticTypes := #[.long, .boolean, (.array (.object "java/io/ObjectStreamField")), .char, (.object "java/util/Comparator"), .byte, .byte]
  resolved := Array.replicate 1451 none
  statics := none }

def pool9 : Array CpInfo := pool [(1, u "java/lang/Cloneable"), (0, .class_ 1), (0, u "java/lang/Object"), (0, .class_ 3)] 3

/-- java/lang/Cloneable -/
def k9 : Class := { plain "java/lang/Cloneable" (some 0) with
  accessFlags := 1537
  interfaces := #[]
  cf := some (fileOf pool9 2 #[] #[] 1537 4 #[] #[])
  fields := #[]
  methods := #[]
  instanceTypes := #[]
  staticTypes := #[]
  resolved := Array.replicate 8 none
  statics := none }

/-- the primitive byte -/
def k10 : Class := { plain "byte" none with kind := .primitive 'B', accessFlags := 0x411 }
/-- [B -/
def k11 : Class := { plain "[B" (some 0) with kind := .array 10 .byte, interfaces := #[9, 3], accessFlags := 1041 }

/-- the primitive int -/
def k12 : Class := { plain "int" none with kind := .primitive 'I', accessFlags := 0x411 }
/-- [I -/
def k13 : Class := { plain "[I" (some 0) with kind := .array 12 .int, interfaces := #[9, 3], accessFlags := 1041 }

def heap : Heap := #[]
def classes : Array Class := #[k0, k1, k2, k3, k4, k5, k6, k7, k8, k9, k10, k11, k12, k13]
def interned : List (Array UInt16 × Addr) := []
def slotsUsed : Nat := 0
def theMethod : MethodId := ⟨1, 1⟩
def args0 : Array Value := #[.long 5, .long 300, .long 7, .long 9]
def aboutOver (below : List Frame) : State where
  vm := { classes := classes, interned := interned.toArray }
  heap := heap
  slotsUsed := slotsUsed
  threads := #[{ frames := .invoking theMethod args0 :: below }]
def below0 : List Frame := [.native { method := ⟨0, 0⟩, args := #[] }]
def about1 : State := aboutOver below0
def p0 : Program := .bare "" "" ""
def e0 : Env := launch0.env 0 0 0
theorem w_frames : about1.frames = Frame.invoking theMethod args0 :: below0 := rfl
set_option maxRecDepth 65536 in
theorem w_args : argsFit about1.vm theMethod args0 = true := by decide +kernel
set_option maxRecDepth 65536 in
theorem w_heap : heapFits about1 = true := by decide +kernel
set_option maxRecDepth 65536 in
theorem w_runnable : about1.curStatus? = some .runnable := by decide +kernel
set_option maxRecDepth 65536 in
theorem w_alone : about1.alone = true := by decide +kernel
set_option maxRecDepth 65536 in
theorem w_named : about1.methodNamed? x = some theMethod := by decide +kernel
set_option maxRecDepth 65536 in
theorem w_hears : about1.hears theMethod below0 = true := by decide +kernel
set_option maxRecDepth 65536 in
theorem w_ripe : about1.ripe theMethod args0 below0 = true := by decide +kernel
theorem w_running : about1.status = .running := rfl
set_option maxRecDepth 65536 in
theorem w_room : about1.hasRoom e0.platform room_1 = true :=
  launch0.hasRoom_least _ room_1 (by decide +kernel) (by decide +kernel) (by decide +kernel) (by decide +kernel) (by decide +kernel) (by decide +kernel)
theorem allAtoms_all (ts : List Jvm.Cond) (a : Array Jvm.Value) (st : Jvm.State) : (allAtoms ts).before a st = ts.all (fun c => c.before a st) := by
  induction ts with
  | nil => rfl
  | cons c t ih =>
    show (Jvm.Cond.and c (allAtoms t)).before a st = _
    rw [Jvm.Cond.before_and, ih, List.all_cons]
def words1 : List Jvm.Cond := Jvm.Cond.code x code maxLocals ret :: tables_1
/-- a 'code' word, met by the world's own term for the bytes: nothing is compared byte by byte -/
theorem code_word {y : MethodName} {bytes : ByteArray} {mx : Nat} {rt : Option FieldType} {a : Array Value} {s : State} {m : MethodId} {meth : Method} {c : Code} (h1 : s.methodNamed? y = some m) (h2 : s.vm.method? m = some meth) (h3 : meth.code = some c) (h4 : c.code = bytes)
    (h5 : (c.maxLocals == mx && c.exceptionTable.isEmpty && decide (c.maxStack ≤ mostOperands) && decide (meth.sig.returnType = rt) && !meth.locks && decide (parseMethodDescriptor y.desc = some meth.sig)) = true) : (Jvm.Cond.code y bytes mx rt).before a s = true := by
  simp only [Bool.and_eq_true, beq_iff_eq, Bool.not_eq_true', decide_eq_true_eq] at h5
  obtain ⟨⟨⟨⟨⟨g1, g2⟩, g3⟩, g4⟩, g5⟩, g6⟩ := h5
  simp [Cond.before, Cond.holds, Cond.value, h1, h2, h3, h4, g1, g2, g3, g4, g5, g6]
def isCode : Jvm.Cond → Bool
  | .code _ _ _ _ => true
  | _ => false
theorem all_split {L : List Jvm.Cond} {P : Jvm.Cond → Bool} (h1 : L.all (fun c => isCode c || P c) = true) (h2 : ∀ c ∈ L.filter isCode, P c = true) : L.all P = true := by
  refine List.all_eq_true.mpr fun c hc => ?_
  have h := List.all_eq_true.mp h1 c hc
  rcases Bool.eq_false_or_eq_true (isCode c) with hi | hi
  · exact h2 c (List.mem_filter.mpr ⟨hc, hi⟩)
  · simpa [hi] using h
set_option maxRecDepth 65536 in
theorem w_c0 : (Jvm.Cond.code x code maxLocals ret).before args0 about1 = true := code_word (m := ⟨1, 1⟩) (meth := k1m1) (c := k1c1) (by decide +kernel) rfl rfl rfl (by decide +kernel)
set_option maxRecDepth 65536 in
theorem w_c1 : (Jvm.Cond.code ({ cls := "com/example/lease/lease/engine/Task", name := "<init>", desc := "(Ljava/lang/String;[BJ)V" } : Jvm.MethodName) prog_44_method_1_code (5 : Nat) (Option.none : Option Jvm.ClassFile.FieldType)).before args0 about1 = true := code_word (m := ⟨2, 0⟩) (meth := k2m0) (c := k2c0) (by decide +kernel) rfl rfl rfl (by decide +kernel)
set_option maxRecDepth 65536 in
theorem w_c2 : (Jvm.Cond.code ({ cls := "java/lang/Object", name := "<init>", desc := "()V" } : Jvm.MethodName) object_method_1_code (1 : Nat) (Option.none : Option Jvm.ClassFile.FieldType)).before args0 about1 = true := code_word (m := ⟨0, 0⟩) (meth := k0m0) (c := k0c0) (by decide +kernel) rfl rfl rfl (by decide +kernel)
set_option maxRecDepth 65536 in
theorem w_c3 : (Jvm.Cond.code ({ cls := "com/example/lease/lease/engine/Task", name := "liveAt", desc := "(J)Z" } : Jvm.MethodName) prog_44_method_2_code (3 : Nat) (Option.some Jvm.ClassFile.FieldType.boolean)).before args0 about1 = true := code_word (m := ⟨2, 1⟩) (meth := k2m1) (c := k2c1) (by decide +kernel) rfl rfl rfl (by decide +kernel)
def codes1 : List Jvm.Cond := [Jvm.Cond.code x code maxLocals ret, Jvm.Cond.code ({ cls := "com/example/lease/lease/engine/Task", name := "<init>", desc := "(Ljava/lang/String;[BJ)V" } : Jvm.MethodName) prog_44_method_1_code (5 : Nat) (Option.none : Option Jvm.ClassFile.FieldType), Jvm.Cond.code ({ cls := "java/lang/Object", name := "<init>", desc := "()V" } : Jvm.MethodName) object_method_1_code (1 : Nat) (Option.none : Option Jvm.ClassFile.FieldType), Jvm.Cond.code ({ cls := "com/example/lease/lease/engine/Task", name := "liveAt", desc := "(J)Z" } : Jvm.MethodName) prog_44_method_2_code (3 : Nat) (Option.some Jvm.ClassFile.FieldType.boolean)]
set_option maxRecDepth 65536 in
theorem codes_eq : words1.filter isCode = codes1 := rfl
theorem w_codes : ∀ c ∈ words1.filter isCode, c.before args0 about1 = true := by
  rw [codes_eq]
  intro c hc
  simp only [codes1, List.mem_cons, List.not_mem_nil, or_false] at hc
  rcases hc with rfl | rfl | rfl | rfl
  · exact w_c0
  · exact w_c1
  · exact w_c2
  · exact w_c3
set_option maxRecDepth 65536 in
theorem w_t1 : (words1.take 24).all (fun c => isCode c || c.before args0 about1) = true := by decide +kernel
set_option maxRecDepth 65536 in
theorem w_t2 : (words1.drop 24).all (fun c => isCode c || c.before args0 about1) = true := by decide +kernel
theorem w_tables : (allAtoms (Jvm.Cond.code x code maxLocals ret :: tables_1)).before args0 about1 = true := by
  rw [allAtoms_all]
  show words1.all (fun c => c.before args0 about1) = true
  refine all_split ?_ w_codes
  rw [← List.take_append_drop 24 words1, List.all_append, w_t1, w_t2]
  rfl
set_option maxRecDepth 65536 in
theorem w_case : (Jvm.Cond.and given_1 narrow_1).before args0 about1 = true := by decide +kernel
theorem w_applies : (headSpec (Jvm.Cond.code x code maxLocals ret :: tables_1) room_1).applies x e0.platform about1 = true :=
  (Spec.applies_iff w_frames).mpr ⟨w_running, w_runnable, w_alone, w_named, w_hears, w_ripe, w_room, w_tables⟩
theorem atStart : AtStart classFile x code maxLocals ret World_1 tables_1 room_1 Calls_1 rest_1 Pre_1 launch0 p0 e0 about1 theMethod args0 below0 :=
  ⟨lists_1, trivial, launch0.admits_env _ _ _, launch0.least_env, fairChoices_fair.cas, fairChoices_fair.clock, w_frames, w_args, w_heap, w_applies, trivial, trivial, w_case⟩
end start1
theorem witness_1 : WitnessClaimed_1 := ⟨start1.p0, start1.e0, start1.about1, start1.theMethod, start1.args0, start1.below0, start1.atStart⟩
end Jvm.Pilot.@@N@@
