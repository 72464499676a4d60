import JvmDerived
import JvmDerived.Pilot.@@N@@Statement
import JvmDerived.Pilot.@@N@@Code
set_option linter.unusedVariables false
set_option linter.unusedSimpArgs false
namespace Jvm.Pilot.@@N@@
open Jvm Jvm.ClassFile Sem Op Lib Jvm.Free Jvm.Stand Jvm.LawKit Jvm.RoadKit Bundle Jvm.Pilot.@@N@@.Jvm.D
/-! my own small laws: arrays by a function of the place; returns -/
def IA (Z : State) (h : Heap) (a : Addr) (ty : FieldType) (n : Nat) (f : Nat → Int32) : Prop :=
  ∃ c : Cell, Arr Z h a c ty ∧ c.slots.size = n ∧ ∀ j, j < n → c.slots[j]? = some (.int (f j)) ∧ fits ty (.int (f j)) = true
def JA (Z : State) (h : Heap) (a : Addr) (n : Nat) (f : Nat → Int64) : Prop :=
  ∃ c : Cell, Arr Z h a c .long ∧ c.slots.size = n ∧ ∀ j, j < n → c.slots[j]? = some (.long (f j))
def upd (f : Nat → Int32) (i : Nat) (v : Int32) : Nat → Int32 := fun j => if j = i then v else f j
def updJ (f : Nat → Int64) (i : Nat) (v : Int64) : Nat → Int64 := fun j => if j = i then v else f j
def QP (r : Value) (h0 : Heap) (n0 : Nat) (v : Option Value) (h : Heap) (L : List Loc) : Prop := v = some r ∧ Fr n0 L ∧ h = h0
def QL (n0 : Nat) (v : Option Value) (h : Heap) (L : List Loc) : Prop := v = some (.int 1) ∧ Fr n0 L
section Own
variable {p : Program} {l : Launch} {e : Env} {R : Room} {s : State} {m : MethodId} {args : Array Value} {below : List Frame} {meth : Method} {c : Code} {T : State} {locs : List Loc} {cells slots : Nat} {Z : State} {h h' : Heap} {a b : Addr} {ty : FieldType} {n : Nat} {f : Nat → Int32} {fJ : Nat → Int64} {sl : Nat} {v : Value} {wl : List Addr}
theorem IA.lt (F : IA Z h a ty n f) : a < h.size := by obtain ⟨c, A, -⟩ := F; exact A.lt
theorem IA.ext (F : IA Z h a ty n f) (E : Ext h h') : IA Z h' a ty n f := by obtain ⟨c, A, r⟩ := F; exact ⟨c, A.ext E, r⟩
theorem IA.other (F : IA Z h b ty n f) (W : Wr h h' a sl v) (q : b ≠ a) : IA Z h' b ty n f := by obtain ⟨c, A, r⟩ := F; exact ⟨c, A.other W q, r⟩
theorem IA.keep (F : IA Z h a ty n f) (K : Keep h h' wl) (q : a ∉ wl) : IA Z h' a ty n f := by obtain ⟨c, A, r⟩ := F; exact ⟨c, ⟨K.2.1 a c A.1 q, A.2⟩, r⟩
theorem IA.new {k : ClassId} {z : Int32} (A : Arr Z h a (newA k ty z) ty) (hd : defaultValue ty = .int 0) (hf : fits ty (.int 0) = true) (hz : z.toNatClampNeg = n) : IA Z h a ty n (fun _ => 0) := by
  refine ⟨_, A, by rw [sz_new, hz], fun j hj => ⟨?_, hf⟩⟩
  have : j < z.toNatClampNeg := by rw [hz]; exact hj
  simp [newA, hd, this]
theorem IA.set {c : Cell} (A : Arr Z h a c ty) (S : c.slots.size = n) (H : ∀ j, j < n → c.slots[j]? = some (.int (f j)) ∧ fits ty (.int (f j)) = true) {x : Int32} (hv : fits ty (.int x) = true) {i : Nat} (W : Wr h h' a i (.int x)) (hi : i < n) : IA Z h' a ty n (upd f i x) := by
  refine ⟨_, A.same W, by rw [sz_set, S], fun j hj => ?_⟩
  unfold upd
  by_cases q : j = i
  · subst q; simp [Cell.setSlot, S, hi, hv]
  · have := H j hj
    rw [if_neg q]
    refine ⟨?_, this.2⟩
    rw [← this.1]
    show (c.slots.setIfInBounds i (.int x))[j]? = _
    exact Array.getElem?_setIfInBounds_ne (Ne.symm q)
theorem JA.lt (F : JA Z h a n fJ) : a < h.size := by obtain ⟨c, A, -⟩ := F; exact A.lt
theorem JA.ext (F : JA Z h a n fJ) (E : Ext h h') : JA Z h' a n fJ := by obtain ⟨c, A, r⟩ := F; exact ⟨c, A.ext E, r⟩
theorem JA.other (F : JA Z h b n fJ) (W : Wr h h' a sl v) (q : b ≠ a) : JA Z h' b n fJ := by obtain ⟨c, A, r⟩ := F; exact ⟨c, A.other W q, r⟩
theorem JA.keep (F : JA Z h a n fJ) (K : Keep h h' wl) (q : a ∉ wl) : JA Z h' a n fJ := by obtain ⟨c, A, r⟩ := F; exact ⟨c, ⟨K.2.1 a c A.1 q, A.2⟩, r⟩
theorem JA.new {k : ClassId} {z : Int32} (A : Arr Z h a (newA k .long z) .long) (hz : z.toNatClampNeg = n) : JA Z h a n (fun _ => 0) := by
  refine ⟨_, A, by rw [sz_new, hz], fun j hj => ?_⟩
  have : j < z.toNatClampNeg := by rw [hz]; exact hj
  simp [newA, defaultValue, this]
theorem JA.set {c : Cell} (A : Arr Z h a c .long) (S : c.slots.size = n) (H : ∀ j, j < n → c.slots[j]? = some (.long (fJ j))) {x : Int64} {i : Nat} (W : Wr h h' a i (.long x)) (hi : i < n) : JA Z h' a n (updJ fJ i x) := by
  refine ⟨_, A.same W, by rw [sz_set, S], fun j hj => ?_⟩
  unfold updJ
  by_cases q : j = i
  · subst q; simp [Cell.setSlot, S, hi]
  · rw [if_neg q, ← H j hj]
    show (c.slots.setIfInBounds i (.long x))[j]? = _
    exact Array.getElem?_setIfInBounds_ne (Ne.symm q)
theorem stBA (X : Stand p l e R s m args below meth c T locs cells slots) (hx : p.tables.exec = Jvm.exec) (hZ : Z.Warmed39 s.vm) (eT : T.heap = h) (V : IA Z h a .byte n f) {j x : Int32} (hj : ¬ (j < 0 ∨ n ≤ j.toNatClampNeg)) {g : JFrame} (hg : g.method = m) {rest : List Value} (hs : g.stack = .int x :: .int j :: .ref a :: rest) (hd : decode c.code g.pc = .ok (.bastore, 1)) :
    ∃ T' h', Stand p l e R s m args below meth c T' (locs ++ [⟨a, j.toNatClampNeg⟩]) cells slots ∧ T'.heap = h' ∧ (∃ sl v, Wr h h' a sl v) ∧ IA Z h' a .byte n (upd f j.toNatClampNeg (nar .byte x)) ∧ ∀ target, Steps p.tables e below (T'.setTop { g with pc := g.pc + 1, stack := rest }) target → Steps p.tables e below (T.setTop g) target := by
  obtain ⟨cl, A, S, H⟩ := V
  obtain ⟨T', h', X', e', W, st⟩ := stB X hx hZ eT A (j := j) (x := x) (by rw [S]; exact hj) hg hs hd
  exact ⟨T', h', X', e', ⟨_, _, W⟩, IA.set A S H (fits_nar_byte _) W (Nat.lt_of_not_le fun q => hj (Or.inr q)), st⟩
theorem stIA (X : Stand p l e R s m args below meth c T locs cells slots) (hx : p.tables.exec = Jvm.exec) (hZ : Z.Warmed39 s.vm) (eT : T.heap = h) (V : IA Z h a .int n f) {j x : Int32} (hj : ¬ (j < 0 ∨ n ≤ j.toNatClampNeg)) {g : JFrame} (hg : g.method = m) {rest : List Value} (hs : g.stack = .int x :: .int j :: .ref a :: rest) (hd : decode c.code g.pc = .ok (.iastore, 1)) :
    ∃ T' h', Stand p l e R s m args below meth c T' (locs ++ [⟨a, j.toNatClampNeg⟩]) cells slots ∧ T'.heap = h' ∧ (∃ sl v, Wr h h' a sl v) ∧ IA Z h' a .int n (upd f j.toNatClampNeg x) ∧ ∀ target, Steps p.tables e below (T'.setTop { g with pc := g.pc + 1, stack := rest }) target → Steps p.tables e below (T.setTop g) target := by
  obtain ⟨cl, A, S, H⟩ := V
  obtain ⟨T', h', X', e', W, st⟩ := stI X hx hZ eT A (j := j) (x := x) (by rw [S]; exact hj) hg hs hd
  exact ⟨T', h', X', e', ⟨_, _, W⟩, IA.set A S H rfl W (Nat.lt_of_not_le fun q => hj (Or.inr q)), st⟩
theorem stJA (X : Stand p l e R s m args below meth c T locs cells slots) (hx : p.tables.exec = Jvm.exec) (hZ : Z.Warmed39 s.vm) (eT : T.heap = h) (V : JA Z h a n fJ) {j : Int32} {x : Int64} (hj : ¬ (j < 0 ∨ n ≤ j.toNatClampNeg)) {g : JFrame} (hg : g.method = m) {rest : List Value} (hs : g.stack = .long x :: .int j :: .ref a :: rest) (hd : decode c.code g.pc = .ok (.lastore, 1)) :
    ∃ T' h', Stand p l e R s m args below meth c T' (locs ++ [⟨a, j.toNatClampNeg⟩]) cells slots ∧ T'.heap = h' ∧ (∃ sl v, Wr h h' a sl v) ∧ JA Z h' a n (updJ fJ j.toNatClampNeg x) ∧ ∀ target, Steps p.tables e below (T'.setTop { g with pc := g.pc + 1, stack := rest }) target → Steps p.tables e below (T.setTop g) target := by
  obtain ⟨cl, A, S, H⟩ := V
  obtain ⟨T', h', X', e', W, st⟩ := stJ X hx hZ eT A (j := j) (x := x) (by rw [S]; exact hj) hg hs hd
  exact ⟨T', h', X', e', ⟨_, _, W⟩, JA.set A S H W (Nat.lt_of_not_le fun q => hj (Or.inr q)), st⟩
theorem ldBA (X : Stand p l e R s m args below meth c T locs cells slots) (hx : p.tables.exec = Jvm.exec) (hZ : Z.Warmed39 s.vm) (eT : T.heap = h) (V : IA Z h a .byte n f) {j : Int32} (hj : ¬ (j < 0 ∨ n ≤ j.toNatClampNeg)) {g : JFrame} (hg : g.method = m) {rest : List Value} (hs : g.stack = .int j :: .ref a :: rest) (hd : decode c.code g.pc = .ok (.baload, 1)) :
    ∀ target, Steps p.tables e below (T.setTop { g with pc := g.pc + 1, stack := .int (f j.toNatClampNeg) :: rest }) target → Steps p.tables e below (T.setTop g) target := by
  obtain ⟨cl, A, S, H⟩ := V
  exact X.baloadBytes hx (by rw [eT]; exact A.1) (State.isArrayOf_alike hZ.alike A.2.1) A.2.2 (by rw [S]; exact hj) (H _ (Nat.lt_of_not_le fun q => hj (Or.inr q))).1 hg hs hd
theorem ldIA (X : Stand p l e R s m args below meth c T locs cells slots) (hx : p.tables.exec = Jvm.exec) (hZ : Z.Warmed39 s.vm) (eT : T.heap = h) (V : IA Z h a .int n f) {j : Int32} (hj : ¬ (j < 0 ∨ n ≤ j.toNatClampNeg)) {g : JFrame} (hg : g.method = m) {rest : List Value} (hs : g.stack = .int j :: .ref a :: rest) (hd : decode c.code g.pc = .ok (.iaload, 1)) :
    ∀ target, Steps p.tables e below (T.setTop { g with pc := g.pc + 1, stack := .int (f j.toNatClampNeg) :: rest }) target → Steps p.tables e below (T.setTop g) target := by
  obtain ⟨cl, A, S, H⟩ := V
  exact X.iaload hx (by rw [eT]; exact A.1) (State.isArrayOf_alike hZ.alike A.2.1) A.2.2 (by rw [S]; exact hj) (H _ (Nat.lt_of_not_le fun q => hj (Or.inr q))).1 hg hs hd
theorem ldJA (X : Stand p l e R s m args below meth c T locs cells slots) (hx : p.tables.exec = Jvm.exec) (hZ : Z.Warmed39 s.vm) (eT : T.heap = h) (V : JA Z h a n fJ) {j : Int32} (hj : ¬ (j < 0 ∨ n ≤ j.toNatClampNeg)) {g : JFrame} (hg : g.method = m) {rest : List Value} (hs : g.stack = .int j :: .ref a :: rest) (hd : decode c.code g.pc = .ok (.laload, 1)) :
    ∀ target, Steps p.tables e below (T.setTop { g with pc := g.pc + 1, stack := .long (fJ j.toNatClampNeg) :: rest }) target → Steps p.tables e below (T.setTop g) target := by
  obtain ⟨cl, A, S, H⟩ := V
  exact X.laload hx (by rw [eT]; exact A.1) (State.isArrayOf_alike hZ.alike A.2.1) A.2.2 (by rw [S]; exact hj) (H _ (Nat.lt_of_not_le fun q => hj (Or.inr q))) hg hs hd
theorem lnIA (X : Stand p l e R s m args below meth c T locs cells slots) (hx : p.tables.exec = Jvm.exec) (hZ : Z.Warmed39 s.vm) (eT : T.heap = h) (V : IA Z h a ty n f) {z : Int32} (hz : n.toInt32 = z) {g : JFrame} (hg : g.method = m) {rest : List Value} (hs : g.stack = .ref a :: rest) (hd : decode c.code g.pc = .ok (.arraylength, 1)) :
    ∀ target, Steps p.tables e below (T.setTop { g with pc := g.pc + 1, stack := .int z :: rest }) target → Steps p.tables e below (T.setTop g) target := by
  obtain ⟨cl, A, S, H⟩ := V
  intro t k
  refine X.arraylength hx (by rw [eT]; exact A.1) (State.isArrayOf_alike hZ.alike A.2.1) hg hs hd t ?_
  rw [S, hz]; exact k
theorem lnJA (X : Stand p l e R s m args below meth c T locs cells slots) (hx : p.tables.exec = Jvm.exec) (hZ : Z.Warmed39 s.vm) (eT : T.heap = h) (V : JA Z h a n fJ) {z : Int32} (hz : n.toInt32 = z) {g : JFrame} (hg : g.method = m) {rest : List Value} (hs : g.stack = .ref a :: rest) (hd : decode c.code g.pc = .ok (.arraylength, 1)) :
    ∀ target, Steps p.tables e below (T.setTop { g with pc := g.pc + 1, stack := .int z :: rest }) target → Steps p.tables e below (T.setTop g) target := by
  obtain ⟨cl, A, S, H⟩ := V
  intro t k
  refine X.arraylength hx (by rw [eT]; exact A.1) (State.isArrayOf_alike hZ.alike A.2.1) hg hs hd t ?_
  rw [S, hz]; exact k
theorem retI (X : Stand p l e R s m args below meth c T locs cells slots) (hx : p.tables.exec = Jvm.exec) {pc : Nat} {Ls : Array Slot} {z : Int32} {rest : List Value} (hret : meth.sig.returnType = some .int) (hd : decode c.code pc = .ok (.ireturn, 1)) {fs : List Frame}
    (hl : ∀ (f : JFrame) (acts : List Action), f.method = m → f.locked = none → f.entered = [] → (doReturn e (T.setTop f) acts (some (.int z))).1 = T.setFrames fs) : Steps p.tables e below (T.setTop (mkF m pc Ls (.int z :: rest))) (T.setFrames fs) :=
  retOut X hx hret rfl (Or.inl ⟨rfl, Or.inl rfl, z, rfl⟩) hd hl
end Own
/-! numbers -/
theorem own_small {v : Int32} (n : Nat) (h0 : 0 ≤ v.toInt) (h1 : v.toInt < n) : ∃ k : Fin n, v = Int32.ofNat k.val := by
  refine ⟨⟨v.toInt.toNat, by omega⟩, ?_⟩
  apply Int32.toInt_inj.mp
  have := v.toInt_lt
  show v.toInt = (Int32.ofNat v.toInt.toNat).toInt
  rw [Int32.toInt_ofNat_of_lt (by omega)]
  omega
theorem own_mask31 (x : Int32) : 0 ≤ (x &&& (2147483647 : Int32)).toInt ∧ (x &&& (2147483647 : Int32)).toInt = x.toInt % 2147483648 := by
  have h : (x &&& (2147483647 : Int32)).toInt = x.toInt % (2 ^ 31 : Nat) := c_mask x 2147483647 31 (by decide) (by decide)
  omega
theorem own_mod (x : Int32) (d : Int32) (n : Nat) (hd : d.toInt = n) (hn : 0 < n) : ∃ k : Fin n, (x &&& (2147483647 : Int32)) % d = Int32.ofNat k.val := by
  apply own_small
  · rw [Int32.toInt_mod]; exact Int.tmod_nonneg _ (own_mask31 x).1
  · rw [Int32.toInt_mod, hd]; exact Int.tmod_lt_of_pos _ (by omega)
theorem own_ofNat_toInt {n : Nat} (h : n < 2147483648) : (Int32.ofNat n).toInt = n := Int32.toInt_ofNat_of_lt (by omega)
theorem own_ofNat_lt {a b : Nat} (ha : a < 2147483648) (hb : b < 2147483648) : Int32.ofNat a < Int32.ofNat b ↔ a < b := by
  rw [Int32.lt_iff_toInt_lt, own_ofNat_toInt ha, own_ofNat_toInt hb]; omega
theorem own_ofNat_nat {n : Nat} (h : n < 2147483648) : (Int32.ofNat n).toNatClampNeg = n := by
  show (Int32.ofNat n).toInt.toNat = n
  rw [own_ofNat_toInt h]; omega
theorem own_ofNat_in {n len : Nat} (h : n < len) (hl : len ≤ 2147483648) : ¬ (Int32.ofNat n < 0 ∨ len ≤ (Int32.ofNat n).toNatClampNeg) := by
  rw [own_ofNat_nat (by omega), Int32.lt_iff_toInt_lt, own_ofNat_toInt (by omega)]
  have e : (0 : Int32).toInt = 0 := by decide
  rw [e]; omega
theorem own_ofNat_succ (n : Nat) : Int32.ofNat n + 1 = Int32.ofNat (n + 1) := by rw [Int32.ofNat_add]; rfl
theorem inb_d0 : decode prog_3_method_2_code 0 = .ok (.iload_n 2, 1) := by decide +kernel
theorem inb_d1 : decode prog_3_method_2_code 1 = .ok (.iload_n 1, 1) := by decide +kernel
theorem inb_d2 : decode prog_3_method_2_code 2 = .ok (.isub, 1) := by decide +kernel
theorem inb_d3 : decode prog_3_method_2_code 3 = .ok (.iconst 2, 1) := by decide +kernel
theorem inb_d4 : decode prog_3_method_2_code 4 = .ok (.if_icmp .lt 25, 3) := by decide +kernel
theorem inb_d7 : decode prog_3_method_2_code 7 = .ok (.aload_n 0, 1) := by decide +kernel
theorem inb_d8 : decode prog_3_method_2_code 8 = .ok (.iload_n 1, 1) := by decide +kernel
theorem inb_d9 : decode prog_3_method_2_code 9 = .ok (.baload, 1) := by decide +kernel
theorem inb_d10 : decode prog_3_method_2_code 10 = .ok (.bipush 91, 2) := by decide +kernel
theorem inb_d12 : decode prog_3_method_2_code 12 = .ok (.if_icmp .ne 17, 3) := by decide +kernel
theorem inb_d15 : decode prog_3_method_2_code 15 = .ok (.aload_n 0, 1) := by decide +kernel
theorem inb_d16 : decode prog_3_method_2_code 16 = .ok (.iload_n 2, 1) := by decide +kernel
theorem inb_d17 : decode prog_3_method_2_code 17 = .ok (.iconst 1, 1) := by decide +kernel
theorem inb_d18 : decode prog_3_method_2_code 18 = .ok (.isub, 1) := by decide +kernel
theorem inb_d19 : decode prog_3_method_2_code 19 = .ok (.baload, 1) := by decide +kernel
theorem inb_d20 : decode prog_3_method_2_code 20 = .ok (.bipush 93, 2) := by decide +kernel
theorem inb_d22 : decode prog_3_method_2_code 22 = .ok (.if_icmp .ne 7, 3) := by decide +kernel
theorem inb_d25 : decode prog_3_method_2_code 25 = .ok (.iconst 1, 1) := by decide +kernel
theorem inb_d26 : decode prog_3_method_2_code 26 = .ok (.goto 4, 3) := by decide +kernel
theorem inb_d29 : decode prog_3_method_2_code 29 = .ok (.iconst 0, 1) := by decide +kernel
theorem inb_d30 : decode prog_3_method_2_code 30 = .ok (.ireturn, 1) := by decide +kernel
theorem inb_pn : plainName "com/example/trimhash/trimhash/Ipv6Address" = true := by first | (simp [plainName, overriddenIn]; done) | decide +kernel
theorem inb_ef (m : MethodId) (x0 : Addr) (x1 : Int32) (x2 : Int32) : entryFrame m #[(.ref x0), (.int x1), (.int x2)] 3 = mkF m 0 #[.val (.ref x0), .val (.int x1), .val (.int x2)] [] := by first | (simp [entryFrame, mkF, argsToLocals, Value.category]; done) | rfl
def fInb (p1 : Int32) (p2 : Int32) (fa : Nat → Int32) : Int32 :=
  let j30_s0_2 : Int32 := (if (p2 - p1) < (2 : Int32) then (0 : Int32) else (if (fa (p1).toNatClampNeg) = (91 : Int32) then (if (fa ((p2 - (1 : Int32))).toNatClampNeg) = (93 : Int32) then (1 : Int32) else (0 : Int32)) else (0 : Int32)))
  (nar .boolean j30_s0_2)
set_option maxRecDepth 65536 in
set_option maxHeartbeats 40000000 in
theorem rm_inb (l : Launch) (Z : State) (a0 : Array Value) (hw : ∀ d ∈ tables_1, d.before a0 Z = true) (ws : List Jvm.Cond) (r0 : Addr) (p1 : Int32) (p2 : Int32) (fa : Nat → Int32) (h0 : Heap) (n0 : Nat) (Z0 : n0 ≤ h0.size) (Va : IA Z h0 r0 .byte 8 fa) (hi1 : ¬ (p2 - p1) < (2 : Int32) → ¬ (p1 < 0 ∨ 8 ≤ p1.toNatClampNeg)) (hi2 : ¬ (p2 - p1) < (2 : Int32) → ¬ ((p2 - (1 : Int32)) < 0 ∨ 8 ≤ (p2 - (1 : Int32)).toNatClampNeg)) :
    MetFree l (⟨"com/example/trimhash/trimhash/Ipv6Address", "isInBrackets", "([BII)Z"⟩ : MethodName) (head1 (Jvm.Cond.code (⟨"com/example/trimhash/trimhash/Ipv6Address", "isInBrackets", "([BII)Z"⟩ : MethodName) prog_3_method_2_code 3 (some .boolean) :: ws) ({ frames := 0, cells := 0, slots := 0, locals := 0 } : Room)) (fun a U => a = #[(.ref r0), (.int p1), (.int p2)] ∧ Z.Warmed39 U.vm ∧ U.heap = h0) (fun _ _ _ _ _ => True) (fun _ U o U' => ∃ v L, o = .returned v ∧ QP (.int (fInb p1 p2 fa)) h0 n0 v U'.heap L ∧ FrameEnd U o U' L ({ frames := 0, cells := 0, slots := 0, locals := 0 } : Room).cells ({ frames := 0, cells := 0, slots := 0, locals := 0 } : Room).slots) := by
  refine MetFree.of_bodySF (plainFor_of_name inb_pn) hisR ?_
  intro p e s m args below meth c s₁ Bd hml0 hP hK
  obtain ⟨rfl, hZ, hh⟩ := hP
  have hx := Bd.exec
  have hby := Bd.bytes
  have hml : c.maxLocals = 3 := hml0
  have hown : s.vm.findClass "com/example/trimhash/trimhash/Ipv6Address" = some m.cls := findClass_of_methodNamed Bd.named
  have hnm := (name_of_methodNamed Bd.named Bd.method).1
  have X0 : Stand p l e ({ frames := 0, cells := 0, slots := 0, locals := 0 } : Room) s m #[(.ref r0), (.int p1), (.int p2)] below meth c s₁ [] 0 0 := Stand.of_body Bd
  have e0 : s₁.heap = h0 := by rw [← hh, Bd.state]; rfl
  have N0 := Fr.nil n0
  obtain ⟨P0, hP0⟩ : ∃ P0 : State → Prop, P0 = fun t => Steps p.tables e below (s₁.setTop (entryFrame m #[(.ref r0), (.int p1), (.int p2)] 3)) t := ⟨_, rfl⟩
  have K0 : ∀ t, Steps p.tables e below (s₁.setTop (mkF m 0 #[.val (.ref r0), .val (.int p1), .val (.int p2)] [])) t → P0 t := by
    intro t k; rw [hP0]; exact castTop (inb_ef m r0 p1 p2) k
  have K1 : ∀ t, Steps p.tables e below (s₁.setTop (mkF m 4 #[.val (.ref r0), .val (.int p1), .val (.int p2)] [(.int (2 : Int32)), (.int (p2 - p1))])) t → P0 t := by
    intro t kt
    refine K0 t ?_
    show Steps p.tables e below (s₁.setTop (mkF m 0 #[.val (.ref r0), .val (.int p1), .val (.int p2)] [])) t
    refine XS.iloadN X0.here hx rfl (hb hby inb_d0) rfl ?_
    show Steps p.tables e below (s₁.setTop (mkF m 1 #[.val (.ref r0), .val (.int p1), .val (.int p2)] [(.int p2)])) t
    refine XS.iloadN X0.here hx rfl (hb hby inb_d1) rfl ?_
    show Steps p.tables e below (s₁.setTop (mkF m 2 #[.val (.ref r0), .val (.int p1), .val (.int p2)] [(.int p1), (.int p2)])) t
    refine XS.isub X0.here hx rfl (hb hby inb_d2) rfl ?_
    show Steps p.tables e below (s₁.setTop (mkF m 3 #[.val (.ref r0), .val (.int p1), .val (.int p2)] [(.int (p2 - p1))])) t
    refine XS.iconst X0.here hx rfl (hb hby inb_d3) ?_
    exact kt
  obtain ⟨j30_s0_2, hj30_s0_2, K10⟩ : ∃ (j30_s0_2 : Int32), j30_s0_2 = (if (p2 - p1) < (2 : Int32) then (0 : Int32) else (if (fa (p1).toNatClampNeg) = (91 : Int32) then (if (fa ((p2 - (1 : Int32))).toNatClampNeg) = (93 : Int32) then (1 : Int32) else (0 : Int32)) else (0 : Int32))) ∧ ∀ t, Steps p.tables e below (s₁.setTop (mkF m 30 #[.val (.ref r0), .val (.int p1), .val (.int p2)] [(.int j30_s0_2)])) t → P0 t := by
    by_cases hc4 : (p2 - p1) < (2 : Int32)
    · have K2 : ∀ t, Steps p.tables e below (s₁.setTop (mkF m 30 #[.val (.ref r0), .val (.int p1), .val (.int p2)] [(.int (0 : Int32))])) t → P0 t := by
        intro t kt
        refine K1 t ?_
        show Steps p.tables e below (s₁.setTop (mkF m 4 #[.val (.ref r0), .val (.int p1), .val (.int p2)] [(.int (2 : Int32)), (.int (p2 - p1))])) t
        refine XS.icmpYes X0.here hx rfl (pc0 := 4) (pc' := 29) rfl (hb hby inb_d4) rfl (tlt hc4).1 (by decide) (by decide) ?_
        show Steps p.tables e below (s₁.setTop (mkF m 29 #[.val (.ref r0), .val (.int p1), .val (.int p2)] [])) t
        refine XS.iconst X0.here hx rfl (hb hby inb_d29) ?_
        exact kt
      exact ⟨_, (if_pos hc4).symm, K2⟩
    · have K3 : ∀ t, Steps p.tables e below (s₁.setTop (mkF m 12 #[.val (.ref r0), .val (.int p1), .val (.int p2)] [(.int (91 : Int32)), (.int (fa (p1).toNatClampNeg))])) t → P0 t := by
        intro t kt
        refine K1 t ?_
        show Steps p.tables e below (s₁.setTop (mkF m 4 #[.val (.ref r0), .val (.int p1), .val (.int p2)] [(.int (2 : Int32)), (.int (p2 - p1))])) t
        refine XS.icmpNo X0.here hx rfl (hb hby inb_d4) rfl (flt hc4).1 ?_
        show Steps p.tables e below (s₁.setTop (mkF m 7 #[.val (.ref r0), .val (.int p1), .val (.int p2)] [])) t
        refine XS.aloadN X0.here hx rfl (hb hby inb_d7) rfl rfl ?_
        show Steps p.tables e below (s₁.setTop (mkF m 8 #[.val (.ref r0), .val (.int p1), .val (.int p2)] [(.ref r0)])) t
        refine XS.iloadN X0.here hx rfl (hb hby inb_d8) rfl ?_
        show Steps p.tables e below (s₁.setTop (mkF m 9 #[.val (.ref r0), .val (.int p1), .val (.int p2)] [(.int p1), (.ref r0)])) t
        refine ldBA X0 hx hZ e0 Va (j := p1) (hi1 hc4) (g := (mkF m 9 #[.val (.ref r0), .val (.int p1), .val (.int p2)] [(.int p1), (.ref r0)])) rfl rfl (hb hby inb_d9) _ ?_
        show Steps p.tables e below (s₁.setTop (mkF m 10 #[.val (.ref r0), .val (.int p1), .val (.int p2)] [(.int (fa (p1).toNatClampNeg))])) t
        refine XS.bipush X0.here hx rfl (hb hby inb_d10) ?_
        exact kt
      obtain ⟨j30_s0_1, hj30_s0_1, K9⟩ : ∃ (j30_s0_1 : Int32), j30_s0_1 = (if (fa (p1).toNatClampNeg) = (91 : Int32) then (if (fa ((p2 - (1 : Int32))).toNatClampNeg) = (93 : Int32) then (1 : Int32) else (0 : Int32)) else (0 : Int32)) ∧ ∀ t, Steps p.tables e below (s₁.setTop (mkF m 30 #[.val (.ref r0), .val (.int p1), .val (.int p2)] [(.int j30_s0_1)])) t → P0 t := by
        by_cases hc12 : (fa (p1).toNatClampNeg) = (91 : Int32)
        · have K4 : ∀ t, Steps p.tables e below (s₁.setTop (mkF m 22 #[.val (.ref r0), .val (.int p1), .val (.int p2)] [(.int (93 : Int32)), (.int (fa ((p2 - (1 : Int32))).toNatClampNeg))])) t → P0 t := by
            intro t kt
            refine K3 t ?_
            show Steps p.tables e below (s₁.setTop (mkF m 12 #[.val (.ref r0), .val (.int p1), .val (.int p2)] [(.int (91 : Int32)), (.int (fa (p1).toNatClampNeg))])) t
            refine XS.icmpNo X0.here hx rfl (hb hby inb_d12) rfl (teq hc12).2 ?_
            show Steps p.tables e below (s₁.setTop (mkF m 15 #[.val (.ref r0), .val (.int p1), .val (.int p2)] [])) t
            refine XS.aloadN X0.here hx rfl (hb hby inb_d15) rfl rfl ?_
            show Steps p.tables e below (s₁.setTop (mkF m 16 #[.val (.ref r0), .val (.int p1), .val (.int p2)] [(.ref r0)])) t
            refine XS.iloadN X0.here hx rfl (hb hby inb_d16) rfl ?_
            show Steps p.tables e below (s₁.setTop (mkF m 17 #[.val (.ref r0), .val (.int p1), .val (.int p2)] [(.int p2), (.ref r0)])) t
            refine XS.iconst X0.here hx rfl (hb hby inb_d17) ?_
            show Steps p.tables e below (s₁.setTop (mkF m 18 #[.val (.ref r0), .val (.int p1), .val (.int p2)] [(.int (1 : Int32)), (.int p2), (.ref r0)])) t
            refine XS.isub X0.here hx rfl (hb hby inb_d18) rfl ?_
            show Steps p.tables e below (s₁.setTop (mkF m 19 #[.val (.ref r0), .val (.int p1), .val (.int p2)] [(.int (p2 - (1 : Int32))), (.ref r0)])) t
            refine ldBA X0 hx hZ e0 Va (j := (p2 - (1 : Int32))) (hi2 hc4) (g := (mkF m 19 #[.val (.ref r0), .val (.int p1), .val (.int p2)] [(.int (p2 - (1 : Int32))), (.ref r0)])) rfl rfl (hb hby inb_d19) _ ?_
            show Steps p.tables e below (s₁.setTop (mkF m 20 #[.val (.ref r0), .val (.int p1), .val (.int p2)] [(.int (fa ((p2 - (1 : Int32))).toNatClampNeg))])) t
            refine XS.bipush X0.here hx rfl (hb hby inb_d20) ?_
            exact kt
          obtain ⟨j30_s0, hj30_s0, K7⟩ : ∃ (j30_s0 : Int32), j30_s0 = (if (fa ((p2 - (1 : Int32))).toNatClampNeg) = (93 : Int32) then (1 : Int32) else (0 : Int32)) ∧ ∀ t, Steps p.tables e below (s₁.setTop (mkF m 30 #[.val (.ref r0), .val (.int p1), .val (.int p2)] [(.int j30_s0)])) t → P0 t := by
            by_cases hc22 : (fa ((p2 - (1 : Int32))).toNatClampNeg) = (93 : Int32)
            · have K5 : ∀ t, Steps p.tables e below (s₁.setTop (mkF m 30 #[.val (.ref r0), .val (.int p1), .val (.int p2)] [(.int (1 : Int32))])) t → P0 t := by
                intro t kt
                refine K4 t ?_
                show Steps p.tables e below (s₁.setTop (mkF m 22 #[.val (.ref r0), .val (.int p1), .val (.int p2)] [(.int (93 : Int32)), (.int (fa ((p2 - (1 : Int32))).toNatClampNeg))])) t
                refine XS.icmpNo X0.here hx rfl (hb hby inb_d22) rfl (teq hc22).2 ?_
                show Steps p.tables e below (s₁.setTop (mkF m 25 #[.val (.ref r0), .val (.int p1), .val (.int p2)] [])) t
                refine XS.iconst X0.here hx rfl (hb hby inb_d25) ?_
                show Steps p.tables e below (s₁.setTop (mkF m 26 #[.val (.ref r0), .val (.int p1), .val (.int p2)] [(.int (1 : Int32))])) t
                refine XS.goto X0.here hx rfl (pc0 := 26) (pc' := 30) rfl (hb hby inb_d26) (by decide) (by decide) ?_
                exact kt
              exact ⟨_, (if_pos hc22).symm, K5⟩
            · have K6 : ∀ t, Steps p.tables e below (s₁.setTop (mkF m 30 #[.val (.ref r0), .val (.int p1), .val (.int p2)] [(.int (0 : Int32))])) t → P0 t := by
                intro t kt
                refine K4 t ?_
                show Steps p.tables e below (s₁.setTop (mkF m 22 #[.val (.ref r0), .val (.int p1), .val (.int p2)] [(.int (93 : Int32)), (.int (fa ((p2 - (1 : Int32))).toNatClampNeg))])) t
                refine XS.icmpYes X0.here hx rfl (pc0 := 22) (pc' := 29) rfl (hb hby inb_d22) rfl (feq hc22).2 (by decide) (by decide) ?_
                show Steps p.tables e below (s₁.setTop (mkF m 29 #[.val (.ref r0), .val (.int p1), .val (.int p2)] [])) t
                refine XS.iconst X0.here hx rfl (hb hby inb_d29) ?_
                exact kt
              exact ⟨_, (if_neg hc22).symm, K6⟩
          subst hj30_s0
          exact ⟨_, (if_pos hc12).symm, K7⟩
        · have K8 : ∀ t, Steps p.tables e below (s₁.setTop (mkF m 30 #[.val (.ref r0), .val (.int p1), .val (.int p2)] [(.int (0 : Int32))])) t → P0 t := by
            intro t kt
            refine K3 t ?_
            show Steps p.tables e below (s₁.setTop (mkF m 12 #[.val (.ref r0), .val (.int p1), .val (.int p2)] [(.int (91 : Int32)), (.int (fa (p1).toNatClampNeg))])) t
            refine XS.icmpYes X0.here hx rfl (pc0 := 12) (pc' := 29) rfl (hb hby inb_d12) rfl (feq hc12).2 (by decide) (by decide) ?_
            show Steps p.tables e below (s₁.setTop (mkF m 29 #[.val (.ref r0), .val (.int p1), .val (.int p2)] [])) t
            refine XS.iconst X0.here hx rfl (hb hby inb_d29) ?_
            exact kt
          exact ⟨_, (if_neg hc12).symm, K8⟩
      subst hj30_s0_1
      exact ⟨_, (if_neg hc4).symm, K9⟩
  obtain ⟨fs, hr, hrun, hended, hW, hsame⟩ := X0.leave (v := some (.int (nar .boolean j30_s0_2))) (fun h => by rw [Bd.returns] at h; cases h)
  refine ⟨_, _, ?_, hrun, hended, _, _, rfl, ?_, ⟨_, rfl⟩, hW, hsame.mono (by decide) (by decide)⟩
  · skip
    have q := K10 _ (retN X0 hx (t := .boolean) Bd.returns (by simp) (hb hby inb_d30) hr)
    rw [hP0] at q; exact q
  · show QP (.int (fInb p1 p2 fa)) h0 n0 _ s₁.heap _
    rw [e0]
    subst hj30_s0_2
    exact ⟨rfl, N0, rfl⟩
theorem own_nb (x : Int32) : nar .byte (nar .byte x) = nar .byte x := by simp [nar]
theorem own_updb {f : Nat → Int32} (h : ∀ j, nar .byte (f j) = f j) (i : Nat) (x : Int32) : ∀ j, nar .byte (upd f i (nar .byte x) j) = upd f i (nar .byte x) j := by
  intro j; unfold upd; split
  · exact own_nb x
  · exact h j
theorem own_f3 {p1 v45 : Int32} (hv45 : v45 = (p1 &&& (3 : Int32))) : 0 ≤ v45.toInt ∧ v45.toInt ≤ 3 := by
  have h : (p1 &&& (3 : Int32)).toInt = p1.toInt % (2 ^ 2 : Nat) := c_mask p1 3 2 (by decide) (by decide)
  subst hv45; omega
theorem own_l4 {p2 v53 : Int32} (hv53 : v53 = ((p2 &&& (2147483647 : Int32)) % (5 : Int32))) : 0 ≤ v53.toInt ∧ v53.toInt ≤ 4 := by
  have h := own_mask31 p2
  have e : (5 : Int32).toInt = 5 := by decide
  subst hv53
  rw [Int32.toInt_mod, e]
  rw [Int.tmod_eq_emod_of_nonneg h.1]; omega
theorem own_to {v45 v53 v60 : Int32} (h1 : 0 ≤ v45.toInt ∧ v45.toInt ≤ 3) (h2 : 0 ≤ v53.toInt ∧ v53.toInt ≤ 4) (hv60 : v60 = (v45 + v53)) : v60.toInt = v45.toInt + v53.toInt := by
  have h := c_iadd v45 v53; have r := rng32 (v45 + v53); subst hv60; omega
theorem own_sub1 {v : Int32} (h : 1 ≤ v.toInt) : (v - (1 : Int32)).toInt = v.toInt - 1 := by
  have e : (1 : Int32).toInt = 1 := by decide
  have h := c_isub v 1; have r := rng32 (v - 1); have r2 := rng32 v; rw [e] at h; omega
theorem own_in8 {v : Int32} (h0 : 0 ≤ v.toInt) (h1 : v.toInt < 8) : ¬ (v < 0 ∨ 8 ≤ v.toNatClampNeg) := by
  have e : (0 : Int32).toInt = 0 := by decide
  have q : v.toNatClampNeg = v.toInt.toNat := rfl
  rw [Int32.lt_iff_toInt_lt, e, q]; omega
theorem own_lt1 {v : Int32} (h : ¬ v < (1 : Int32)) : 1 ≤ v.toInt := by
  have e : (1 : Int32).toInt = 1 := by decide
  rw [Int32.lt_iff_toInt_lt, e] at h; omega
theorem own_lt2 {v : Int32} : v < (2 : Int32) ↔ v.toInt < 2 := by
  have e : (2 : Int32).toInt = 2 := by decide
  rw [Int32.lt_iff_toInt_lt, e]
theorem own_i1 {p1 p2 v45 v53 v60 : Int32} (hv45 : v45 = (p1 &&& (3 : Int32))) (hv53 : v53 = ((p2 &&& (2147483647 : Int32)) % (5 : Int32))) (hv60 : v60 = (v45 + v53)) (hc : ¬ v60 < (1 : Int32)) : ¬ ((v60 - (1 : Int32)) < 0 ∨ 8 ≤ (v60 - (1 : Int32)).toNatClampNeg) := by
  have a := own_f3 hv45; have b := own_l4 hv53; have t := own_to a b hv60; have u := own_lt1 hc; have w := own_sub1 u
  exact own_in8 (by omega) (by omega)
theorem own_i2 {p1 v45 : Int32} (hv45 : v45 = (p1 &&& (3 : Int32))) : ¬ (v45 < 0 ∨ 8 ≤ v45.toNatClampNeg) := by
  have a := own_f3 hv45
  exact own_in8 (by omega) (by omega)
theorem own_subv {x y : Int32} (hx : 0 ≤ x.toInt ∧ x.toInt ≤ 7) (hy : 0 ≤ y.toInt ∧ y.toInt ≤ 7) : (x - y).toInt = x.toInt - y.toInt := by
  have h := c_isub x y; have r := rng32 (x - y); omega
theorem own_c1 {p1 p2 v45 v53 v60 : Int32} (hv45 : v45 = (p1 &&& (3 : Int32))) (hv53 : v53 = ((p2 &&& (2147483647 : Int32)) % (5 : Int32))) (hv60 : v60 = (v45 + v53)) : ¬ (v60 - v45) < (2 : Int32) → ¬ (v45 < 0 ∨ 8 ≤ v45.toNatClampNeg) := fun _ => own_i2 hv45
theorem own_c2 {p1 p2 v45 v53 v60 : Int32} (hv45 : v45 = (p1 &&& (3 : Int32))) (hv53 : v53 = ((p2 &&& (2147483647 : Int32)) % (5 : Int32))) (hv60 : v60 = (v45 + v53)) : ¬ (v60 - v45) < (2 : Int32) → ¬ ((v60 - (1 : Int32)) < 0 ∨ 8 ≤ (v60 - (1 : Int32)).toNatClampNeg) := by
  have a := own_f3 hv45; have b := own_l4 hv53; have t := own_to a b hv60; have w := own_subv (x := v60) (y := v45) (by omega) (by omega)
  intro h; rw [own_lt2, w] at h; have w := own_sub1 (v := v60) (by omega)
  exact own_in8 (by omega) (by omega)
theorem own_rev {p1 p2 v45 v53 v60 : Int32} (hv45 : v45 = (p1 &&& (3 : Int32))) (hv53 : v53 = ((p2 &&& (2147483647 : Int32)) % (5 : Int32))) (hv60 : v60 = (v45 + v53)) : (v45 - v60) < (2 : Int32) := by
  have a := own_f3 hv45; have b := own_l4 hv53; have t := own_to a b hv60; have w := own_subv (x := v45) (y := v60) (by omega) (by omega)
  rw [own_lt2, w]; omega
theorem own_c1' {p1 p2 v45 v53 v60 : Int32} (hv45 : v45 = (p1 &&& (3 : Int32))) (hv53 : v53 = ((p2 &&& (2147483647 : Int32)) % (5 : Int32))) (hv60 : v60 = (v45 + v53)) : ¬ (v45 - v60) < (2 : Int32) → ¬ (v60 < 0 ∨ 8 ≤ v60.toNatClampNeg) := fun h => absurd (own_rev hv45 hv53 hv60) h
theorem own_c2' {p1 p2 v45 v53 v60 : Int32} (hv45 : v45 = (p1 &&& (3 : Int32))) (hv53 : v53 = ((p2 &&& (2147483647 : Int32)) % (5 : Int32))) (hv60 : v60 = (v45 + v53)) : ¬ (v45 - v60) < (2 : Int32) → ¬ ((v45 - (1 : Int32)) < 0 ∨ 8 ≤ (v45 - (1 : Int32)).toNatClampNeg) := fun h => absurd (own_rev hv45 hv53 hv60) h
theorem own_plain (q0 : Int64) (p1 : Int32) (p2 : Int32) (p3 : Int32) (j12_s0 : Int32) (j26_s0 : Int32) (j40_s0 : Int32) (v45 : Int32) (v53 : Int32) (v60 : Int32) (f64 : Nat → Int32) (f74 : Nat → Int32) (f84 : Nat → Int32) (f94 : Nat → Int32) (f104 : Nat → Int32) (f114 : Nat → Int32) (f124 : Nat → Int32) (f135 : Nat → Int32) (f146 : Nat → Int32) (jf193 : Nat → Int32) (v198 : Int32) (j228_s0_1 : Int32) (f228 : Nat → Int32) (j255_s0_3 : Int32) (j283_s0 : Int32) (j297_s0 : Int32)
    (hj12_s0 : j12_s0 = (if (p3 &&& (1 : Int32)) = (0 : Int32) then (0 : Int32) else (1 : Int32)))
    (hj26_s0 : j26_s0 = (if (p3 &&& (2 : Int32)) = (0 : Int32) then (0 : Int32) else (1 : Int32)))
    (hj40_s0 : j40_s0 = (if (p3 &&& (4 : Int32)) = (0 : Int32) then (0 : Int32) else (1 : Int32)))
    (hv45 : v45 = (p1 &&& (3 : Int32)))
    (hv53 : v53 = ((p2 &&& (2147483647 : Int32)) % (5 : Int32)))
    (hv60 : v60 = (v45 + v53))
    (hf64 : f64 = (fun _ => (0 : Int32)))
    (hf74 : f74 = (upd f64 ((0 : Int32)).toNatClampNeg (nar .byte ((q0.toInt32).toInt8.toInt32))))
    (hf84 : f84 = (upd f74 ((1 : Int32)).toNatClampNeg (nar .byte ((((q0.toUInt64 >>> ((8 : Int32) &&& 0x3f).toInt64.toUInt64).toInt64).toInt32).toInt8.toInt32))))
    (hf94 : f94 = (upd f84 ((2 : Int32)).toNatClampNeg (nar .byte ((((q0.toUInt64 >>> ((16 : Int32) &&& 0x3f).toInt64.toUInt64).toInt64).toInt32).toInt8.toInt32))))
    (hf104 : f104 = (upd f94 ((3 : Int32)).toNatClampNeg (nar .byte ((((q0.toUInt64 >>> ((24 : Int32) &&& 0x3f).toInt64.toUInt64).toInt64).toInt32).toInt8.toInt32))))
    (hf114 : f114 = (upd f104 ((4 : Int32)).toNatClampNeg (nar .byte ((((q0.toUInt64 >>> ((32 : Int32) &&& 0x3f).toInt64.toUInt64).toInt64).toInt32).toInt8.toInt32))))
    (hf124 : f124 = (upd f114 ((5 : Int32)).toNatClampNeg (nar .byte ((((q0.toUInt64 >>> ((40 : Int32) &&& 0x3f).toInt64.toUInt64).toInt64).toInt32).toInt8.toInt32))))
    (hf135 : f135 = (upd f124 ((6 : Int32)).toNatClampNeg (nar .byte ((((q0.toUInt64 >>> ((48 : Int32) &&& 0x3f).toInt64.toUInt64).toInt64).toInt32).toInt8.toInt32))))
    (hf146 : f146 = (upd f135 ((7 : Int32)).toNatClampNeg (nar .byte ((((q0.toUInt64 >>> ((56 : Int32) &&& 0x3f).toInt64.toUInt64).toInt64).toInt32).toInt8.toInt32))))
    (hjf193 : jf193 = (if v60 < (1 : Int32) then f146 else (upd f146 ((v60 - (1 : Int32))).toNatClampNeg (nar .byte (if j26_s0 = (0 : Int32) then (if (f146 ((v60 - (1 : Int32))).toNatClampNeg) = (93 : Int32) then (94 : Int32) else (f146 ((v60 - (1 : Int32))).toNatClampNeg)) else (93 : Int32))))))
    (hv198 : v198 = (jf193 (v45).toNatClampNeg))
    (hj228_s0_1 : j228_s0_1 = (if j12_s0 = (0 : Int32) then (if v198 = (91 : Int32) then (92 : Int32) else v198) else (91 : Int32)))
    (hf228 : f228 = (upd jf193 (v45).toNatClampNeg (nar .byte j228_s0_1)))
    (hj255_s0_3 : j255_s0_3 = (if j40_s0 = (0 : Int32) then (if v53 < (2 : Int32) then (0 : Int32) else (if j12_s0 = (0 : Int32) then (0 : Int32) else (if j26_s0 = (0 : Int32) then (0 : Int32) else (1 : Int32)))) else (0 : Int32)))
    (hj283_s0 : j283_s0 = (if j40_s0 = (0 : Int32) then (fInb v45 v60 f228) else (fInb v60 v45 f228)))
    (hj297_s0 : j297_s0 = (if j283_s0 = j255_s0_3 then (1 : Int32) else (0 : Int32))) :
    j297_s0 = 1 := by
  have a := own_f3 hv45; have b := own_l4 hv53; have t := own_to a b hv60
  have w := own_subv (x := v60) (y := v45) (by omega) (by omega)
  have z0 : ∀ j, nar .byte (f64 j) = f64 j := by intro j; rw [hf64]; show nar .byte 0 = 0; decide
  have z1 : ∀ j, nar .byte (f74 j) = f74 j := by rw [hf74]; exact own_updb z0 _ _
  have z2 : ∀ j, nar .byte (f84 j) = f84 j := by rw [hf84]; exact own_updb z1 _ _
  have z3 : ∀ j, nar .byte (f94 j) = f94 j := by rw [hf94]; exact own_updb z2 _ _
  have z4 : ∀ j, nar .byte (f104 j) = f104 j := by rw [hf104]; exact own_updb z3 _ _
  have z5 : ∀ j, nar .byte (f114 j) = f114 j := by rw [hf114]; exact own_updb z4 _ _
  have z6 : ∀ j, nar .byte (f124 j) = f124 j := by rw [hf124]; exact own_updb z5 _ _
  have z7 : ∀ j, nar .byte (f135 j) = f135 j := by rw [hf135]; exact own_updb z6 _ _
  have z8 : ∀ j, nar .byte (f146 j) = f146 j := by rw [hf146]; exact own_updb z7 _ _
  have z9 : ∀ j, nar .byte (jf193 j) = jf193 j := by
    rw [hjf193]; split
    · exact z8
    · exact own_updb z8 _ _
  clear hf64 hf74 hf84 hf94 hf104 hf114 hf124 hf135 hf146 z0 z1 z2 z3 z4 z5 z6 z7
  have b0 : nar .boolean (0 : Int32) = 0 := by decide
  have b1 : nar .boolean (1 : Int32) = 1 := by decide
  rw [hj297_s0, if_pos]
  rw [hj283_s0, hj255_s0_3]
  by_cases c40 : j40_s0 = 0
  · rw [if_pos c40, if_pos c40]
    simp only [fInb]
    by_cases c53 : v53 < (2 : Int32)
    · have q : (v60 - v45) < (2 : Int32) := by rw [own_lt2] at c53 ⊢; omega
      rw [if_pos q, if_pos c53, b0]
    · have q : ¬ (v60 - v45) < (2 : Int32) := by rw [own_lt2] at c53 ⊢; omega
      rw [if_neg q, if_neg c53]
      rw [own_lt2] at c53
      have w1 := own_sub1 (v := v60) (by omega)
      have nei : (v60 - (1 : Int32)).toNatClampNeg ≠ v45.toNatClampNeg := by
        show (v60 - (1 : Int32)).toInt.toNat ≠ v45.toInt.toNat
        omega
      have r1 : f228 v45.toNatClampNeg = nar .byte j228_s0_1 := by rw [hf228]; simp [upd]
      have r2 : f228 (v60 - (1 : Int32)).toNatClampNeg = jf193 (v60 - (1 : Int32)).toNatClampNeg := by rw [hf228]; simp [upd, nei]
      have n1 : ¬ v60 < (1 : Int32) := by
        have e : (1 : Int32).toInt = 1 := by decide
        rw [Int32.lt_iff_toInt_lt, e]; omega
      rw [if_neg n1] at hjf193
      have r3 : jf193 (v60 - (1 : Int32)).toNatClampNeg = (nar .byte (if j26_s0 = (0 : Int32) then (if (f146 ((v60 - (1 : Int32))).toNatClampNeg) = (93 : Int32) then (94 : Int32) else (f146 ((v60 - (1 : Int32))).toNatClampNeg)) else (93 : Int32))) := by rw [hjf193]; simp [upd]
      rw [r1, r2, r3]
      by_cases c12 : j12_s0 = 0
      · rw [if_pos c12]
        rw [if_pos c12] at hj228_s0_1
        have : nar .byte j228_s0_1 ≠ 91 := by
          by_cases u : v198 = 91
          · rw [if_pos u] at hj228_s0_1; rw [hj228_s0_1]; decide
          · rw [if_neg u] at hj228_s0_1; rw [hj228_s0_1, hv198, z9, ← hv198]; exact u
        rw [if_neg this, b0]
      · rw [if_neg c12]
        rw [if_neg c12] at hj228_s0_1
        have e91 : nar .byte j228_s0_1 = 91 := by rw [hj228_s0_1]; decide
        rw [if_pos e91]
        by_cases c26 : j26_s0 = 0
        · rw [if_pos c26, if_pos c26]
          have : nar .byte (if f146 (v60 - (1 : Int32)).toNatClampNeg = 93 then 94 else f146 (v60 - (1 : Int32)).toNatClampNeg) ≠ 93 := by
            by_cases u : f146 (v60 - (1 : Int32)).toNatClampNeg = 93
            · rw [if_pos u]; decide
            · rw [if_neg u, z8]; exact u
          rw [if_neg this, b0]
        · rw [if_neg c26, if_neg c26, if_pos (by decide), b1]
  · rw [if_neg c40, if_neg c40]
    simp only [fInb]
    rw [if_pos (own_rev hv45 hv53 hv60), b0]
theorem law_pn : plainName "com/example/trimhash/trimhash/Ipv6AddressIsInBracketsPinLaw" = true := by first | (simp [plainName, overriddenIn]; done) | decide +kernel
theorem law_pd0 : parseMethodDescriptor "([BII)Z" = some ⟨[(.array .byte), .int, .int], some .boolean⟩ := by decide +kernel
theorem law_ef (m : MethodId) (x0 : Int64) (x1 : Int32) (x2 : Int32) (x3 : Int32) : entryFrame m #[(.long x0), (.int x1), (.int x2), (.int x3)] maxLocals = mkF m 0 #[.val (.long x0), .second, .val (.int x1), .val (.int x2), .val (.int x3), .unset, .unset, .unset, .unset, .unset, .unset, .unset, .unset, .unset, .unset] [] := by first | (simp [entryFrame, mkF, argsToLocals, Value.category, maxLocals]; done) | rfl
set_option maxRecDepth 65536 in
set_option maxHeartbeats 40000000 in
theorem rm_law (l : Launch) (Z : State) (a0 : Array Value) (hw : ∀ d ∈ tables_1, d.before a0 Z = true) (ws : List Jvm.Cond) (q0 : Int64) (p1 : Int32) (p2 : Int32) (p3 : Int32) (h0 : Heap) (n0 : Nat) (Z0 : n0 ≤ h0.size) :
    MetFree l x (head1 (Jvm.Cond.code x code maxLocals ret :: ws) room_1) (fun a U => a = #[(.long q0), (.int p1), (.int p2), (.int p3)] ∧ Z.Warmed39 U.vm ∧ U.heap = h0) (fun _ _ _ _ _ => True) (fun _ U o U' => ∃ v L, o = .returned v ∧ QL n0 v U'.heap L ∧ FrameEnd U o U' L room_1.cells room_1.slots) := by
  refine MetFree.of_bodySF (plainFor_of_name law_pn) hisR ?_
  intro p e s m args below meth c s₁ Bd hml0 hP hK
  obtain ⟨rfl, hZ, hh⟩ := hP
  have hx := Bd.exec
  have hby := Bd.bytes
  have hml : c.maxLocals = 15 := hml0
  have hown : s.vm.findClass "com/example/trimhash/trimhash/Ipv6AddressIsInBracketsPinLaw" = some m.cls := findClass_of_methodNamed Bd.named
  have hnm := (name_of_methodNamed Bd.named Bd.method).1
  have X0 : Stand p l e room_1 s m #[(.long q0), (.int p1), (.int p2), (.int p3)] below meth c s₁ [] 0 0 := Stand.of_body Bd
  have e0 : s₁.heap = h0 := by rw [← hh, Bd.state]; rfl
  have N0 := Fr.nil n0
  obtain ⟨P0, hP0⟩ : ∃ P0 : State → Prop, P0 = fun t => Steps p.tables e below (s₁.setTop (entryFrame m #[(.long q0), (.int p1), (.int p2), (.int p3)] maxLocals)) t := ⟨_, rfl⟩
  have K0 : ∀ t, Steps p.tables e below (s₁.setTop (mkF m 0 #[.val (.long q0), .second, .val (.int p1), .val (.int p2), .val (.int p3), .unset, .unset, .unset, .unset, .unset, .unset, .unset, .unset, .unset, .unset] [])) t → P0 t := by
    intro t k; rw [hP0]; exact castTop (law_ef m q0 p1 p2 p3) k
  have K1 : ∀ t, Steps p.tables e below (s₁.setTop (mkF m 4 #[.val (.long q0), .second, .val (.int p1), .val (.int p2), .val (.int p3), .unset, .unset, .unset, .unset, .unset, .unset, .unset, .unset, .unset, .unset] [(.int (p3 &&& (1 : Int32)))])) t → P0 t := by
    intro t kt
    refine K0 t ?_
    show Steps p.tables e below (s₁.setTop (mkF m 0 #[.val (.long q0), .second, .val (.int p1), .val (.int p2), .val (.int p3), .unset, .unset, .unset, .unset, .unset, .unset, .unset, .unset, .unset, .unset] [])) t
    refine XS.iload X0.here hx rfl (hb hby at_0) rfl ?_
    show Steps p.tables e below (s₁.setTop (mkF m 2 #[.val (.long q0), .second, .val (.int p1), .val (.int p2), .val (.int p3), .unset, .unset, .unset, .unset, .unset, .unset, .unset, .unset, .unset, .unset] [(.int p3)])) t
    refine XS.iconst X0.here hx rfl (hb hby at_2) ?_
    show Steps p.tables e below (s₁.setTop (mkF m 3 #[.val (.long q0), .second, .val (.int p1), .val (.int p2), .val (.int p3), .unset, .unset, .unset, .unset, .unset, .unset, .unset, .unset, .unset, .unset] [(.int (1 : Int32)), (.int p3)])) t
    refine XS.iand X0.here hx rfl (hb hby at_3) rfl ?_
    exact kt
  obtain ⟨j12_s0, hj12_s0, K4⟩ : ∃ (j12_s0 : Int32), j12_s0 = (if (p3 &&& (1 : Int32)) = (0 : Int32) then (0 : Int32) else (1 : Int32)) ∧ ∀ t, Steps p.tables e below (s₁.setTop (mkF m 12 #[.val (.long q0), .second, .val (.int p1), .val (.int p2), .val (.int p3), .unset, .unset, .unset, .unset, .unset, .unset, .unset, .unset, .unset, .unset] [(.int j12_s0)])) t → P0 t := by
    by_cases hc4 : (p3 &&& (1 : Int32)) = (0 : Int32)
    · have K2 : ∀ t, Steps p.tables e below (s₁.setTop (mkF m 12 #[.val (.long q0), .second, .val (.int p1), .val (.int p2), .val (.int p3), .unset, .unset, .unset, .unset, .unset, .unset, .unset, .unset, .unset, .unset] [(.int (0 : Int32))])) t → P0 t := by
        intro t kt
        refine K1 t ?_
        show Steps p.tables e below (s₁.setTop (mkF m 4 #[.val (.long q0), .second, .val (.int p1), .val (.int p2), .val (.int p3), .unset, .unset, .unset, .unset, .unset, .unset, .unset, .unset, .unset, .unset] [(.int (p3 &&& (1 : Int32)))])) t
        refine XS.ifYes X0.here hx rfl (pc0 := 4) (pc' := 11) rfl (hb hby at_4) rfl ((if0 _ _).trans (teq hc4).1) (by decide) (by decide) ?_
        show Steps p.tables e below (s₁.setTop (mkF m 11 #[.val (.long q0), .second, .val (.int p1), .val (.int p2), .val (.int p3), .unset, .unset, .unset, .unset, .unset, .unset, .unset, .unset, .unset, .unset] [])) t
        refine XS.iconst X0.here hx rfl (hb hby at_11) ?_
        exact kt
      exact ⟨_, (if_pos hc4).symm, K2⟩
    · have K3 : ∀ t, Steps p.tables e below (s₁.setTop (mkF m 12 #[.val (.long q0), .second, .val (.int p1), .val (.int p2), .val (.int p3), .unset, .unset, .unset, .unset, .unset, .unset, .unset, .unset, .unset, .unset] [(.int (1 : Int32))])) t → P0 t := by
        intro t kt
        refine K1 t ?_
        show Steps p.tables e below (s₁.setTop (mkF m 4 #[.val (.long q0), .second, .val (.int p1), .val (.int p2), .val (.int p3), .unset, .unset, .unset, .unset, .unset, .unset, .unset, .unset, .unset, .unset] [(.int (p3 &&& (1 : Int32)))])) t
        refine XS.ifNo X0.here hx rfl (hb hby at_4) rfl ((if0 _ _).trans (feq hc4).1) ?_
        show Steps p.tables e below (s₁.setTop (mkF m 7 #[.val (.long q0), .second, .val (.int p1), .val (.int p2), .val (.int p3), .unset, .unset, .unset, .unset, .unset, .unset, .unset, .unset, .unset, .unset] [])) t
        refine XS.iconst X0.here hx rfl (hb hby at_7) ?_
        show Steps p.tables e below (s₁.setTop (mkF m 8 #[.val (.long q0), .second, .val (.int p1), .val (.int p2), .val (.int p3), .unset, .unset, .unset, .unset, .unset, .unset, .unset, .unset, .unset, .unset] [(.int (1 : Int32))])) t
        refine XS.goto X0.here hx rfl (pc0 := 8) (pc' := 12) rfl (hb hby at_8) (by decide) (by decide) ?_
        exact kt
      exact ⟨_, (if_neg hc4).symm, K3⟩
  have K5 : ∀ t, Steps p.tables e below (s₁.setTop (mkF m 18 #[.val (.long q0), .second, .val (.int p1), .val (.int p2), .val (.int p3), .val (.int j12_s0), .unset, .unset, .unset, .unset, .unset, .unset, .unset, .unset, .unset] [(.int (p3 &&& (2 : Int32)))])) t → P0 t := by
    intro t kt
    refine K4 t ?_
    show Steps p.tables e below (s₁.setTop (mkF m 12 #[.val (.long q0), .second, .val (.int p1), .val (.int p2), .val (.int p3), .unset, .unset, .unset, .unset, .unset, .unset, .unset, .unset, .unset, .unset] [(.int j12_s0)])) t
    refine XS.istore X0.here hx rfl (hb hby at_12) rfl (l' := #[.val (.long q0), .second, .val (.int p1), .val (.int p2), .val (.int p3), .val (.int j12_s0), .unset, .unset, .unset, .unset, .unset, .unset, .unset, .unset, .unset]) rfl ?_
    show Steps p.tables e below (s₁.setTop (mkF m 14 #[.val (.long q0), .second, .val (.int p1), .val (.int p2), .val (.int p3), .val (.int j12_s0), .unset, .unset, .unset, .unset, .unset, .unset, .unset, .unset, .unset] [])) t
    refine XS.iload X0.here hx rfl (hb hby at_14) rfl ?_
    show Steps p.tables e below (s₁.setTop (mkF m 16 #[.val (.long q0), .second, .val (.int p1), .val (.int p2), .val (.int p3), .val (.int j12_s0), .unset, .unset, .unset, .unset, .unset, .unset, .unset, .unset, .unset] [(.int p3)])) t
    refine XS.iconst X0.here hx rfl (hb hby at_16) ?_
    show Steps p.tables e below (s₁.setTop (mkF m 17 #[.val (.long q0), .second, .val (.int p1), .val (.int p2), .val (.int p3), .val (.int j12_s0), .unset, .unset, .unset, .unset, .unset, .unset, .unset, .unset, .unset] [(.int (2 : Int32)), (.int p3)])) t
    refine XS.iand X0.here hx rfl (hb hby at_17) rfl ?_
    exact kt
  obtain ⟨j26_s0, hj26_s0, K8⟩ : ∃ (j26_s0 : Int32), j26_s0 = (if (p3 &&& (2 : Int32)) = (0 : Int32) then (0 : Int32) else (1 : Int32)) ∧ ∀ t, Steps p.tables e below (s₁.setTop (mkF m 26 #[.val (.long q0), .second, .val (.int p1), .val (.int p2), .val (.int p3), .val (.int j12_s0), .unset, .unset, .unset, .unset, .unset, .unset, .unset, .unset, .unset] [(.int j26_s0)])) t → P0 t := by
    by_cases hc18 : (p3 &&& (2 : Int32)) = (0 : Int32)
    · have K6 : ∀ t, Steps p.tables e below (s₁.setTop (mkF m 26 #[.val (.long q0), .second, .val (.int p1), .val (.int p2), .val (.int p3), .val (.int j12_s0), .unset, .unset, .unset, .unset, .unset, .unset, .unset, .unset, .unset] [(.int (0 : Int32))])) t → P0 t := by
        intro t kt
        refine K5 t ?_
        show Steps p.tables e below (s₁.setTop (mkF m 18 #[.val (.long q0), .second, .val (.int p1), .val (.int p2), .val (.int p3), .val (.int j12_s0), .unset, .unset, .unset, .unset, .unset, .unset, .unset, .unset, .unset] [(.int (p3 &&& (2 : Int32)))])) t
        refine XS.ifYes X0.here hx rfl (pc0 := 18) (pc' := 25) rfl (hb hby at_18) rfl ((if0 _ _).trans (teq hc18).1) (by decide) (by decide) ?_
        show Steps p.tables e below (s₁.setTop (mkF m 25 #[.val (.long q0), .second, .val (.int p1), .val (.int p2), .val (.int p3), .val (.int j12_s0), .unset, .unset, .unset, .unset, .unset, .unset, .unset, .unset, .unset] [])) t
        refine XS.iconst X0.here hx rfl (hb hby at_25) ?_
        exact kt
      exact ⟨_, (if_pos hc18).symm, K6⟩
    · have K7 : ∀ t, Steps p.tables e below (s₁.setTop (mkF m 26 #[.val (.long q0), .second, .val (.int p1), .val (.int p2), .val (.int p3), .val (.int j12_s0), .unset, .unset, .unset, .unset, .unset, .unset, .unset, .unset, .unset] [(.int (1 : Int32))])) t → P0 t := by
        intro t kt
        refine K5 t ?_
        show Steps p.tables e below (s₁.setTop (mkF m 18 #[.val (.long q0), .second, .val (.int p1), .val (.int p2), .val (.int p3), .val (.int j12_s0), .unset, .unset, .unset, .unset, .unset, .unset, .unset, .unset, .unset] [(.int (p3 &&& (2 : Int32)))])) t
        refine XS.ifNo X0.here hx rfl (hb hby at_18) rfl ((if0 _ _).trans (feq hc18).1) ?_
        show Steps p.tables e below (s₁.setTop (mkF m 21 #[.val (.long q0), .second, .val (.int p1), .val (.int p2), .val (.int p3), .val (.int j12_s0), .unset, .unset, .unset, .unset, .unset, .unset, .unset, .unset, .unset] [])) t
        refine XS.iconst X0.here hx rfl (hb hby at_21) ?_
        show Steps p.tables e below (s₁.setTop (mkF m 22 #[.val (.long q0), .second, .val (.int p1), .val (.int p2), .val (.int p3), .val (.int j12_s0), .unset, .unset, .unset, .unset, .unset, .unset, .unset, .unset, .unset] [(.int (1 : Int32))])) t
        refine XS.goto X0.here hx rfl (pc0 := 22) (pc' := 26) rfl (hb hby at_22) (by decide) (by decide) ?_
        exact kt
      exact ⟨_, (if_neg hc18).symm, K7⟩
  have K9 : ∀ t, Steps p.tables e below (s₁.setTop (mkF m 32 #[.val (.long q0), .second, .val (.int p1), .val (.int p2), .val (.int p3), .val (.int j12_s0), .val (.int j26_s0), .unset, .unset, .unset, .unset, .unset, .unset, .unset, .unset] [(.int (p3 &&& (4 : Int32)))])) t → P0 t := by
    intro t kt
    refine K8 t ?_
    show Steps p.tables e below (s₁.setTop (mkF m 26 #[.val (.long q0), .second, .val (.int p1), .val (.int p2), .val (.int p3), .val (.int j12_s0), .unset, .unset, .unset, .unset, .unset, .unset, .unset, .unset, .unset] [(.int j26_s0)])) t
    refine XS.istore X0.here hx rfl (hb hby at_26) rfl (l' := #[.val (.long q0), .second, .val (.int p1), .val (.int p2), .val (.int p3), .val (.int j12_s0), .val (.int j26_s0), .unset, .unset, .unset, .unset, .unset, .unset, .unset, .unset]) rfl ?_
    show Steps p.tables e below (s₁.setTop (mkF m 28 #[.val (.long q0), .second, .val (.int p1), .val (.int p2), .val (.int p3), .val (.int j12_s0), .val (.int j26_s0), .unset, .unset, .unset, .unset, .unset, .unset, .unset, .unset] [])) t
    refine XS.iload X0.here hx rfl (hb hby at_28) rfl ?_
    show Steps p.tables e below (s₁.setTop (mkF m 30 #[.val (.long q0), .second, .val (.int p1), .val (.int p2), .val (.int p3), .val (.int j12_s0), .val (.int j26_s0), .unset, .unset, .unset, .unset, .unset, .unset, .unset, .unset] [(.int p3)])) t
    refine XS.iconst X0.here hx rfl (hb hby at_30) ?_
    show Steps p.tables e below (s₁.setTop (mkF m 31 #[.val (.long q0), .second, .val (.int p1), .val (.int p2), .val (.int p3), .val (.int j12_s0), .val (.int j26_s0), .unset, .unset, .unset, .unset, .unset, .unset, .unset, .unset] [(.int (4 : Int32)), (.int p3)])) t
    refine XS.iand X0.here hx rfl (hb hby at_31) rfl ?_
    exact kt
  obtain ⟨j40_s0, hj40_s0, K12⟩ : ∃ (j40_s0 : Int32), j40_s0 = (if (p3 &&& (4 : Int32)) = (0 : Int32) then (0 : Int32) else (1 : Int32)) ∧ ∀ t, Steps p.tables e below (s₁.setTop (mkF m 40 #[.val (.long q0), .second, .val (.int p1), .val (.int p2), .val (.int p3), .val (.int j12_s0), .val (.int j26_s0), .unset, .unset, .unset, .unset, .unset, .unset, .unset, .unset] [(.int j40_s0)])) t → P0 t := by
    by_cases hc32 : (p3 &&& (4 : Int32)) = (0 : Int32)
    · have K10 : ∀ t, Steps p.tables e below (s₁.setTop (mkF m 40 #[.val (.long q0), .second, .val (.int p1), .val (.int p2), .val (.int p3), .val (.int j12_s0), .val (.int j26_s0), .unset, .unset, .unset, .unset, .unset, .unset, .unset, .unset] [(.int (0 : Int32))])) t → P0 t := by
        intro t kt
        refine K9 t ?_
        show Steps p.tables e below (s₁.setTop (mkF m 32 #[.val (.long q0), .second, .val (.int p1), .val (.int p2), .val (.int p3), .val (.int j12_s0), .val (.int j26_s0), .unset, .unset, .unset, .unset, .unset, .unset, .unset, .unset] [(.int (p3 &&& (4 : Int32)))])) t
        refine XS.ifYes X0.here hx rfl (pc0 := 32) (pc' := 39) rfl (hb hby at_32) rfl ((if0 _ _).trans (teq hc32).1) (by decide) (by decide) ?_
        show Steps p.tables e below (s₁.setTop (mkF m 39 #[.val (.long q0), .second, .val (.int p1), .val (.int p2), .val (.int p3), .val (.int j12_s0), .val (.int j26_s0), .unset, .unset, .unset, .unset, .unset, .unset, .unset, .unset] [])) t
        refine XS.iconst X0.here hx rfl (hb hby at_39) ?_
        exact kt
      exact ⟨_, (if_pos hc32).symm, K10⟩
    · have K11 : ∀ t, Steps p.tables e below (s₁.setTop (mkF m 40 #[.val (.long q0), .second, .val (.int p1), .val (.int p2), .val (.int p3), .val (.int j12_s0), .val (.int j26_s0), .unset, .unset, .unset, .unset, .unset, .unset, .unset, .unset] [(.int (1 : Int32))])) t → P0 t := by
        intro t kt
        refine K9 t ?_
        show Steps p.tables e below (s₁.setTop (mkF m 32 #[.val (.long q0), .second, .val (.int p1), .val (.int p2), .val (.int p3), .val (.int j12_s0), .val (.int j26_s0), .unset, .unset, .unset, .unset, .unset, .unset, .unset, .unset] [(.int (p3 &&& (4 : Int32)))])) t
        refine XS.ifNo X0.here hx rfl (hb hby at_32) rfl ((if0 _ _).trans (feq hc32).1) ?_
        show Steps p.tables e below (s₁.setTop (mkF m 35 #[.val (.long q0), .second, .val (.int p1), .val (.int p2), .val (.int p3), .val (.int j12_s0), .val (.int j26_s0), .unset, .unset, .unset, .unset, .unset, .unset, .unset, .unset] [])) t
        refine XS.iconst X0.here hx rfl (hb hby at_35) ?_
        show Steps p.tables e below (s₁.setTop (mkF m 36 #[.val (.long q0), .second, .val (.int p1), .val (.int p2), .val (.int p3), .val (.int j12_s0), .val (.int j26_s0), .unset, .unset, .unset, .unset, .unset, .unset, .unset, .unset] [(.int (1 : Int32))])) t
        refine XS.goto X0.here hx rfl (pc0 := 36) (pc' := 40) rfl (hb hby at_36) (by decide) (by decide) ?_
        exact kt
      exact ⟨_, (if_neg hc32).symm, K11⟩
  have K13 : ∀ t, Steps p.tables e below (s₁.setTop (mkF m 47 #[.val (.long q0), .second, .val (.int p1), .val (.int p2), .val (.int p3), .val (.int j12_s0), .val (.int j26_s0), .val (.int j40_s0), .val (.int (p1 &&& (3 : Int32))), .unset, .unset, .unset, .unset, .unset, .unset] [])) t → P0 t := by
    intro t kt
    refine K12 t ?_
    show Steps p.tables e below (s₁.setTop (mkF m 40 #[.val (.long q0), .second, .val (.int p1), .val (.int p2), .val (.int p3), .val (.int j12_s0), .val (.int j26_s0), .unset, .unset, .unset, .unset, .unset, .unset, .unset, .unset] [(.int j40_s0)])) t
    refine XS.istore X0.here hx rfl (hb hby at_40) rfl (l' := #[.val (.long q0), .second, .val (.int p1), .val (.int p2), .val (.int p3), .val (.int j12_s0), .val (.int j26_s0), .val (.int j40_s0), .unset, .unset, .unset, .unset, .unset, .unset, .unset]) rfl ?_
    show Steps p.tables e below (s₁.setTop (mkF m 42 #[.val (.long q0), .second, .val (.int p1), .val (.int p2), .val (.int p3), .val (.int j12_s0), .val (.int j26_s0), .val (.int j40_s0), .unset, .unset, .unset, .unset, .unset, .unset, .unset] [])) t
    refine XS.iloadN X0.here hx rfl (hb hby at_42) rfl ?_
    show Steps p.tables e below (s₁.setTop (mkF m 43 #[.val (.long q0), .second, .val (.int p1), .val (.int p2), .val (.int p3), .val (.int j12_s0), .val (.int j26_s0), .val (.int j40_s0), .unset, .unset, .unset, .unset, .unset, .unset, .unset] [(.int p1)])) t
    refine XS.iconst X0.here hx rfl (hb hby at_43) ?_
    show Steps p.tables e below (s₁.setTop (mkF m 44 #[.val (.long q0), .second, .val (.int p1), .val (.int p2), .val (.int p3), .val (.int j12_s0), .val (.int j26_s0), .val (.int j40_s0), .unset, .unset, .unset, .unset, .unset, .unset, .unset] [(.int (3 : Int32)), (.int p1)])) t
    refine XS.iand X0.here hx rfl (hb hby at_44) rfl ?_
    show Steps p.tables e below (s₁.setTop (mkF m 45 #[.val (.long q0), .second, .val (.int p1), .val (.int p2), .val (.int p3), .val (.int j12_s0), .val (.int j26_s0), .val (.int j40_s0), .unset, .unset, .unset, .unset, .unset, .unset, .unset] [(.int (p1 &&& (3 : Int32)))])) t
    refine XS.istore X0.here hx rfl (hb hby at_45) rfl (l' := #[.val (.long q0), .second, .val (.int p1), .val (.int p2), .val (.int p3), .val (.int j12_s0), .val (.int j26_s0), .val (.int j40_s0), .val (.int (p1 &&& (3 : Int32))), .unset, .unset, .unset, .unset, .unset, .unset]) rfl ?_
    exact kt
  obtain ⟨v45, hv45, K14⟩ : ∃ v45 : Int32, v45 = (p1 &&& (3 : Int32)) ∧ ∀ t, Steps p.tables e below (s₁.setTop (mkF m 47 #[.val (.long q0), .second, .val (.int p1), .val (.int p2), .val (.int p3), .val (.int j12_s0), .val (.int j26_s0), .val (.int j40_s0), .val (.int v45), .unset, .unset, .unset, .unset, .unset, .unset] [])) t → P0 t := ⟨_, rfl, K13⟩
  have K15 : ∀ t, Steps p.tables e below (s₁.setTop (mkF m 55 #[.val (.long q0), .second, .val (.int p1), .val (.int p2), .val (.int p3), .val (.int j12_s0), .val (.int j26_s0), .val (.int j40_s0), .val (.int v45), .val (.int ((p2 &&& (2147483647 : Int32)) % (5 : Int32))), .unset, .unset, .unset, .unset, .unset] [])) t → P0 t := by
    intro t kt
    refine K14 t ?_
    show Steps p.tables e below (s₁.setTop (mkF m 47 #[.val (.long q0), .second, .val (.int p1), .val (.int p2), .val (.int p3), .val (.int j12_s0), .val (.int j26_s0), .val (.int j40_s0), .val (.int v45), .unset, .unset, .unset, .unset, .unset, .unset] [])) t
    refine XS.iloadN X0.here hx rfl (hb hby at_47) rfl ?_
    show Steps p.tables e below (s₁.setTop (mkF m 48 #[.val (.long q0), .second, .val (.int p1), .val (.int p2), .val (.int p3), .val (.int j12_s0), .val (.int j26_s0), .val (.int j40_s0), .val (.int v45), .unset, .unset, .unset, .unset, .unset, .unset] [(.int p2)])) t
    refine X0.ldcInt hx hown (mvT hZ (hw _ (List.mem_of_getElem? (i := 0) rfl))) (g := (mkF m 48 #[.val (.long q0), .second, .val (.int p1), .val (.int p2), .val (.int p3), .val (.int j12_s0), .val (.int j26_s0), .val (.int j40_s0), .val (.int v45), .unset, .unset, .unset, .unset, .unset, .unset] [(.int p2)])) rfl (hb hby at_48) _ ?_
    show Steps p.tables e below (s₁.setTop (mkF m 50 #[.val (.long q0), .second, .val (.int p1), .val (.int p2), .val (.int p3), .val (.int j12_s0), .val (.int j26_s0), .val (.int j40_s0), .val (.int v45), .unset, .unset, .unset, .unset, .unset, .unset] [(.int (2147483647 : Int32)), (.int p2)])) t
    refine XS.iand X0.here hx rfl (hb hby at_50) rfl ?_
    show Steps p.tables e below (s₁.setTop (mkF m 51 #[.val (.long q0), .second, .val (.int p1), .val (.int p2), .val (.int p3), .val (.int j12_s0), .val (.int j26_s0), .val (.int j40_s0), .val (.int v45), .unset, .unset, .unset, .unset, .unset, .unset] [(.int (p2 &&& (2147483647 : Int32)))])) t
    refine XS.iconst X0.here hx rfl (hb hby at_51) ?_
    show Steps p.tables e below (s₁.setTop (mkF m 52 #[.val (.long q0), .second, .val (.int p1), .val (.int p2), .val (.int p3), .val (.int j12_s0), .val (.int j26_s0), .val (.int j40_s0), .val (.int v45), .unset, .unset, .unset, .unset, .unset, .unset] [(.int (5 : Int32)), (.int (p2 &&& (2147483647 : Int32)))])) t
    refine iremM X0 hx rfl (hb hby at_52) rfl (by decide) ?_
    show Steps p.tables e below (s₁.setTop (mkF m 53 #[.val (.long q0), .second, .val (.int p1), .val (.int p2), .val (.int p3), .val (.int j12_s0), .val (.int j26_s0), .val (.int j40_s0), .val (.int v45), .unset, .unset, .unset, .unset, .unset, .unset] [(.int ((p2 &&& (2147483647 : Int32)) % (5 : Int32)))])) t
    refine XS.istore X0.here hx rfl (hb hby at_53) rfl (l' := #[.val (.long q0), .second, .val (.int p1), .val (.int p2), .val (.int p3), .val (.int j12_s0), .val (.int j26_s0), .val (.int j40_s0), .val (.int v45), .val (.int ((p2 &&& (2147483647 : Int32)) % (5 : Int32))), .unset, .unset, .unset, .unset, .unset]) rfl ?_
    exact kt
  obtain ⟨v53, hv53, K16⟩ : ∃ v53 : Int32, v53 = ((p2 &&& (2147483647 : Int32)) % (5 : Int32)) ∧ ∀ t, Steps p.tables e below (s₁.setTop (mkF m 55 #[.val (.long q0), .second, .val (.int p1), .val (.int p2), .val (.int p3), .val (.int j12_s0), .val (.int j26_s0), .val (.int j40_s0), .val (.int v45), .val (.int v53), .unset, .unset, .unset, .unset, .unset] [])) t → P0 t := ⟨_, rfl, K15⟩
  have K17 : ∀ t, Steps p.tables e below (s₁.setTop (mkF m 62 #[.val (.long q0), .second, .val (.int p1), .val (.int p2), .val (.int p3), .val (.int j12_s0), .val (.int j26_s0), .val (.int j40_s0), .val (.int v45), .val (.int v53), .val (.int (v45 + v53)), .unset, .unset, .unset, .unset] [])) t → P0 t := by
    intro t kt
    refine K16 t ?_
    show Steps p.tables e below (s₁.setTop (mkF m 55 #[.val (.long q0), .second, .val (.int p1), .val (.int p2), .val (.int p3), .val (.int j12_s0), .val (.int j26_s0), .val (.int j40_s0), .val (.int v45), .val (.int v53), .unset, .unset, .unset, .unset, .unset] [])) t
    refine XS.iload X0.here hx rfl (hb hby at_55) rfl ?_
    show Steps p.tables e below (s₁.setTop (mkF m 57 #[.val (.long q0), .second, .val (.int p1), .val (.int p2), .val (.int p3), .val (.int j12_s0), .val (.int j26_s0), .val (.int j40_s0), .val (.int v45), .val (.int v53), .unset, .unset, .unset, .unset, .unset] [(.int v45)])) t
    refine XS.iload X0.here hx rfl (hb hby at_57) rfl ?_
    show Steps p.tables e below (s₁.setTop (mkF m 59 #[.val (.long q0), .second, .val (.int p1), .val (.int p2), .val (.int p3), .val (.int j12_s0), .val (.int j26_s0), .val (.int j40_s0), .val (.int v45), .val (.int v53), .unset, .unset, .unset, .unset, .unset] [(.int v53), (.int v45)])) t
    refine XS.iadd X0.here hx rfl (hb hby at_59) rfl ?_
    show Steps p.tables e below (s₁.setTop (mkF m 60 #[.val (.long q0), .second, .val (.int p1), .val (.int p2), .val (.int p3), .val (.int j12_s0), .val (.int j26_s0), .val (.int j40_s0), .val (.int v45), .val (.int v53), .unset, .unset, .unset, .unset, .unset] [(.int (v45 + v53))])) t
    refine XS.istore X0.here hx rfl (hb hby at_60) rfl (l' := #[.val (.long q0), .second, .val (.int p1), .val (.int p2), .val (.int p3), .val (.int j12_s0), .val (.int j26_s0), .val (.int j40_s0), .val (.int v45), .val (.int v53), .val (.int (v45 + v53)), .unset, .unset, .unset, .unset]) rfl ?_
    exact kt
  obtain ⟨v60, hv60, K18⟩ : ∃ v60 : Int32, v60 = (v45 + v53) ∧ ∀ t, Steps p.tables e below (s₁.setTop (mkF m 62 #[.val (.long q0), .second, .val (.int p1), .val (.int p2), .val (.int p3), .val (.int j12_s0), .val (.int j26_s0), .val (.int j40_s0), .val (.int v45), .val (.int v53), .val (.int v60), .unset, .unset, .unset, .unset] [])) t → P0 t := ⟨_, rfl, K17⟩
  obtain ⟨T19, h19, k19, X19, e19, E19, A19, st19⟩ := newP X0 hx hZ (hw _ (List.mem_of_getElem? (i := 1) rfl)) e0 (g := (mkF m 64 #[.val (.long q0), .second, .val (.int p1), .val (.int p2), .val (.int p3), .val (.int j12_s0), .val (.int j26_s0), .val (.int j40_s0), .val (.int v45), .val (.int v53), .val (.int v60), .unset, .unset, .unset, .unset] [(.int (8 : Int32))])) rfl (hb hby at_64) rfl (by decide) (cap := 8) (by decide) (by decide) (by decide) (by decide)
  obtain ⟨b64, g19⟩ : ∃ z, z = h0.size := ⟨_, rfl⟩
  have g_b64 : n0 ≤ b64 := Nat.le_trans Z0 (Nat.le_of_eq g19.symm)
  rw [← g19] at A19 st19
  have Z19 : n0 ≤ h19.size := Nat.le_trans Z0 E19.1
  obtain ⟨f64, hf64, V19⟩ : ∃ f64 : Nat → Int32, f64 = (fun _ => 0) ∧ IA Z h19 b64 .byte 8 f64 := ⟨_, rfl, IA.new A19 rfl rfl (by decide)⟩
  obtain ⟨T20, h20, X20, e20, ⟨sl20, vv20, W20⟩, V20, st20⟩ := stBA X19 hx hZ e19 V19 (j := (0 : Int32)) (x := ((q0.toInt32).toInt8.toInt32)) (by decide) (g := (mkF m 74 #[.val (.long q0), .second, .val (.int p1), .val (.int p2), .val (.int p3), .val (.int j12_s0), .val (.int j26_s0), .val (.int j40_s0), .val (.int v45), .val (.int v53), .val (.int v60), .val (.ref b64), .unset, .unset, .unset] [(.int ((q0.toInt32).toInt8.toInt32)), (.int (0 : Int32)), (.ref b64)])) rfl rfl (hb hby at_74)
  have Z20 : n0 ≤ h20.size := Nat.le_trans Z19 (Keep.of_wr W20).1
  have N20 := Fr.snoc X20 N0 g_b64
  obtain ⟨f74, hf74, V20'⟩ : ∃ f74 : Nat → Int32, f74 = (upd f64 ((0 : Int32)).toNatClampNeg (nar .byte ((q0.toInt32).toInt8.toInt32))) ∧ IA Z h20 b64 .byte 8 f74 := ⟨_, rfl, V20⟩
  obtain ⟨T21, h21, X21, e21, ⟨sl21, vv21, W21⟩, V21, st21⟩ := stBA X20 hx hZ e20 V20' (j := (1 : Int32)) (x := ((((q0.toUInt64 >>> ((8 : Int32) &&& 0x3f).toInt64.toUInt64).toInt64).toInt32).toInt8.toInt32)) (by decide) (g := (mkF m 84 #[.val (.long q0), .second, .val (.int p1), .val (.int p2), .val (.int p3), .val (.int j12_s0), .val (.int j26_s0), .val (.int j40_s0), .val (.int v45), .val (.int v53), .val (.int v60), .val (.ref b64), .unset, .unset, .unset] [(.int ((((q0.toUInt64 >>> ((8 : Int32) &&& 0x3f).toInt64.toUInt64).toInt64).toInt32).toInt8.toInt32)), (.int (1 : Int32)), (.ref b64)])) rfl rfl (hb hby at_84)
  have Z21 : n0 ≤ h21.size := Nat.le_trans Z20 (Keep.of_wr W21).1
  have N21 := Fr.snoc X21 N20 g_b64
  obtain ⟨f84, hf84, V21'⟩ : ∃ f84 : Nat → Int32, f84 = (upd f74 ((1 : Int32)).toNatClampNeg (nar .byte ((((q0.toUInt64 >>> ((8 : Int32) &&& 0x3f).toInt64.toUInt64).toInt64).toInt32).toInt8.toInt32))) ∧ IA Z h21 b64 .byte 8 f84 := ⟨_, rfl, V21⟩
  obtain ⟨T22, h22, X22, e22, ⟨sl22, vv22, W22⟩, V22, st22⟩ := stBA X21 hx hZ e21 V21' (j := (2 : Int32)) (x := ((((q0.toUInt64 >>> ((16 : Int32) &&& 0x3f).toInt64.toUInt64).toInt64).toInt32).toInt8.toInt32)) (by decide) (g := (mkF m 94 #[.val (.long q0), .second, .val (.int p1), .val (.int p2), .val (.int p3), .val (.int j12_s0), .val (.int j26_s0), .val (.int j40_s0), .val (.int v45), .val (.int v53), .val (.int v60), .val (.ref b64), .unset, .unset, .unset] [(.int ((((q0.toUInt64 >>> ((16 : Int32) &&& 0x3f).toInt64.toUInt64).toInt64).toInt32).toInt8.toInt32)), (.int (2 : Int32)), (.ref b64)])) rfl rfl (hb hby at_94)
  have Z22 : n0 ≤ h22.size := Nat.le_trans Z21 (Keep.of_wr W22).1
  have N22 := Fr.snoc X22 N21 g_b64
  obtain ⟨f94, hf94, V22'⟩ : ∃ f94 : Nat → Int32, f94 = (upd f84 ((2 : Int32)).toNatClampNeg (nar .byte ((((q0.toUInt64 >>> ((16 : Int32) &&& 0x3f).toInt64.toUInt64).toInt64).toInt32).toInt8.toInt32))) ∧ IA Z h22 b64 .byte 8 f94 := ⟨_, rfl, V22⟩
  obtain ⟨T23, h23, X23, e23, ⟨sl23, vv23, W23⟩, V23, st23⟩ := stBA X22 hx hZ e22 V22' (j := (3 : Int32)) (x := ((((q0.toUInt64 >>> ((24 : Int32) &&& 0x3f).toInt64.toUInt64).toInt64).toInt32).toInt8.toInt32)) (by decide) (g := (mkF m 104 #[.val (.long q0), .second, .val (.int p1), .val (.int p2), .val (.int p3), .val (.int j12_s0), .val (.int j26_s0), .val (.int j40_s0), .val (.int v45), .val (.int v53), .val (.int v60), .val (.ref b64), .unset, .unset, .unset] [(.int ((((q0.toUInt64 >>> ((24 : Int32) &&& 0x3f).toInt64.toUInt64).toInt64).toInt32).toInt8.toInt32)), (.int (3 : Int32)), (.ref b64)])) rfl rfl (hb hby at_104)
  have Z23 : n0 ≤ h23.size := Nat.le_trans Z22 (Keep.of_wr W23).1
  have N23 := Fr.snoc X23 N22 g_b64
  obtain ⟨f104, hf104, V23'⟩ : ∃ f104 : Nat → Int32, f104 = (upd f94 ((3 : Int32)).toNatClampNeg (nar .byte ((((q0.toUInt64 >>> ((24 : Int32) &&& 0x3f).toInt64.toUInt64).toInt64).toInt32).toInt8.toInt32))) ∧ IA Z h23 b64 .byte 8 f104 := ⟨_, rfl, V23⟩
  obtain ⟨T24, h24, X24, e24, ⟨sl24, vv24, W24⟩, V24, st24⟩ := stBA X23 hx hZ e23 V23' (j := (4 : Int32)) (x := ((((q0.toUInt64 >>> ((32 : Int32) &&& 0x3f).toInt64.toUInt64).toInt64).toInt32).toInt8.toInt32)) (by decide) (g := (mkF m 114 #[.val (.long q0), .second, .val (.int p1), .val (.int p2), .val (.int p3), .val (.int j12_s0), .val (.int j26_s0), .val (.int j40_s0), .val (.int v45), .val (.int v53), .val (.int v60), .val (.ref b64), .unset, .unset, .unset] [(.int ((((q0.toUInt64 >>> ((32 : Int32) &&& 0x3f).toInt64.toUInt64).toInt64).toInt32).toInt8.toInt32)), (.int (4 : Int32)), (.ref b64)])) rfl rfl (hb hby at_114)
  have Z24 : n0 ≤ h24.size := Nat.le_trans Z23 (Keep.of_wr W24).1
  have N24 := Fr.snoc X24 N23 g_b64
  obtain ⟨f114, hf114, V24'⟩ : ∃ f114 : Nat → Int32, f114 = (upd f104 ((4 : Int32)).toNatClampNeg (nar .byte ((((q0.toUInt64 >>> ((32 : Int32) &&& 0x3f).toInt64.toUInt64).toInt64).toInt32).toInt8.toInt32))) ∧ IA Z h24 b64 .byte 8 f114 := ⟨_, rfl, V24⟩
  obtain ⟨T25, h25, X25, e25, ⟨sl25, vv25, W25⟩, V25, st25⟩ := stBA X24 hx hZ e24 V24' (j := (5 : Int32)) (x := ((((q0.toUInt64 >>> ((40 : Int32) &&& 0x3f).toInt64.toUInt64).toInt64).toInt32).toInt8.toInt32)) (by decide) (g := (mkF m 124 #[.val (.long q0), .second, .val (.int p1), .val (.int p2), .val (.int p3), .val (.int j12_s0), .val (.int j26_s0), .val (.int j40_s0), .val (.int v45), .val (.int v53), .val (.int v60), .val (.ref b64), .unset, .unset, .unset] [(.int ((((q0.toUInt64 >>> ((40 : Int32) &&& 0x3f).toInt64.toUInt64).toInt64).toInt32).toInt8.toInt32)), (.int (5 : Int32)), (.ref b64)])) rfl rfl (hb hby at_124)
  have Z25 : n0 ≤ h25.size := Nat.le_trans Z24 (Keep.of_wr W25).1
  have N25 := Fr.snoc X25 N24 g_b64
  obtain ⟨f124, hf124, V25'⟩ : ∃ f124 : Nat → Int32, f124 = (upd f114 ((5 : Int32)).toNatClampNeg (nar .byte ((((q0.toUInt64 >>> ((40 : Int32) &&& 0x3f).toInt64.toUInt64).toInt64).toInt32).toInt8.toInt32))) ∧ IA Z h25 b64 .byte 8 f124 := ⟨_, rfl, V25⟩
  obtain ⟨T26, h26, X26, e26, ⟨sl26, vv26, W26⟩, V26, st26⟩ := stBA X25 hx hZ e25 V25' (j := (6 : Int32)) (x := ((((q0.toUInt64 >>> ((48 : Int32) &&& 0x3f).toInt64.toUInt64).toInt64).toInt32).toInt8.toInt32)) (by decide) (g := (mkF m 135 #[.val (.long q0), .second, .val (.int p1), .val (.int p2), .val (.int p3), .val (.int j12_s0), .val (.int j26_s0), .val (.int j40_s0), .val (.int v45), .val (.int v53), .val (.int v60), .val (.ref b64), .unset, .unset, .unset] [(.int ((((q0.toUInt64 >>> ((48 : Int32) &&& 0x3f).toInt64.toUInt64).toInt64).toInt32).toInt8.toInt32)), (.int (6 : Int32)), (.ref b64)])) rfl rfl (hb hby at_135)
  have Z26 : n0 ≤ h26.size := Nat.le_trans Z25 (Keep.of_wr W26).1
  have N26 := Fr.snoc X26 N25 g_b64
  obtain ⟨f135, hf135, V26'⟩ : ∃ f135 : Nat → Int32, f135 = (upd f124 ((6 : Int32)).toNatClampNeg (nar .byte ((((q0.toUInt64 >>> ((48 : Int32) &&& 0x3f).toInt64.toUInt64).toInt64).toInt32).toInt8.toInt32))) ∧ IA Z h26 b64 .byte 8 f135 := ⟨_, rfl, V26⟩
  obtain ⟨T27, h27, X27, e27, ⟨sl27, vv27, W27⟩, V27, st27⟩ := stBA X26 hx hZ e26 V26' (j := (7 : Int32)) (x := ((((q0.toUInt64 >>> ((56 : Int32) &&& 0x3f).toInt64.toUInt64).toInt64).toInt32).toInt8.toInt32)) (by decide) (g := (mkF m 146 #[.val (.long q0), .second, .val (.int p1), .val (.int p2), .val (.int p3), .val (.int j12_s0), .val (.int j26_s0), .val (.int j40_s0), .val (.int v45), .val (.int v53), .val (.int v60), .val (.ref b64), .unset, .unset, .unset] [(.int ((((q0.toUInt64 >>> ((56 : Int32) &&& 0x3f).toInt64.toUInt64).toInt64).toInt32).toInt8.toInt32)), (.int (7 : Int32)), (.ref b64)])) rfl rfl (hb hby at_146)
  have Z27 : n0 ≤ h27.size := Nat.le_trans Z26 (Keep.of_wr W27).1
  have N27 := Fr.snoc X27 N26 g_b64
  obtain ⟨f146, hf146, V27'⟩ : ∃ f146 : Nat → Int32, f146 = (upd f135 ((7 : Int32)).toNatClampNeg (nar .byte ((((q0.toUInt64 >>> ((56 : Int32) &&& 0x3f).toInt64.toUInt64).toInt64).toInt32).toInt8.toInt32))) ∧ IA Z h27 b64 .byte 8 f146 := ⟨_, rfl, V27⟩
  have K28 : ∀ t, Steps p.tables e below (T27.setTop (mkF m 150 #[.val (.long q0), .second, .val (.int p1), .val (.int p2), .val (.int p3), .val (.int j12_s0), .val (.int j26_s0), .val (.int j40_s0), .val (.int v45), .val (.int v53), .val (.int v60), .val (.ref b64), .unset, .unset, .unset] [(.int (1 : Int32)), (.int v60)])) t → P0 t := by
    intro t kt
    refine K18 t ?_
    show Steps p.tables e below (s₁.setTop (mkF m 62 #[.val (.long q0), .second, .val (.int p1), .val (.int p2), .val (.int p3), .val (.int j12_s0), .val (.int j26_s0), .val (.int j40_s0), .val (.int v45), .val (.int v53), .val (.int v60), .unset, .unset, .unset, .unset] [])) t
    refine XS.bipush X0.here hx rfl (hb hby at_62) ?_
    show Steps p.tables e below (s₁.setTop (mkF m 64 #[.val (.long q0), .second, .val (.int p1), .val (.int p2), .val (.int p3), .val (.int j12_s0), .val (.int j26_s0), .val (.int j40_s0), .val (.int v45), .val (.int v53), .val (.int v60), .unset, .unset, .unset, .unset] [(.int (8 : Int32))])) t
    refine st19 _ ?_
    show Steps p.tables e below (T19.setTop (mkF m 66 #[.val (.long q0), .second, .val (.int p1), .val (.int p2), .val (.int p3), .val (.int j12_s0), .val (.int j26_s0), .val (.int j40_s0), .val (.int v45), .val (.int v53), .val (.int v60), .unset, .unset, .unset, .unset] [(.ref b64)])) t
    refine XS.astore X19.here hx rfl (hb hby at_66) rfl rfl (l' := #[.val (.long q0), .second, .val (.int p1), .val (.int p2), .val (.int p3), .val (.int j12_s0), .val (.int j26_s0), .val (.int j40_s0), .val (.int v45), .val (.int v53), .val (.int v60), .val (.ref b64), .unset, .unset, .unset]) rfl ?_
    show Steps p.tables e below (T19.setTop (mkF m 68 #[.val (.long q0), .second, .val (.int p1), .val (.int p2), .val (.int p3), .val (.int j12_s0), .val (.int j26_s0), .val (.int j40_s0), .val (.int v45), .val (.int v53), .val (.int v60), .val (.ref b64), .unset, .unset, .unset] [])) t
    refine XS.aload X19.here hx rfl (hb hby at_68) rfl rfl ?_
    show Steps p.tables e below (T19.setTop (mkF m 70 #[.val (.long q0), .second, .val (.int p1), .val (.int p2), .val (.int p3), .val (.int j12_s0), .val (.int j26_s0), .val (.int j40_s0), .val (.int v45), .val (.int v53), .val (.int v60), .val (.ref b64), .unset, .unset, .unset] [(.ref b64)])) t
    refine XS.iconst X19.here hx rfl (hb hby at_70) ?_
    show Steps p.tables e below (T19.setTop (mkF m 71 #[.val (.long q0), .second, .val (.int p1), .val (.int p2), .val (.int p3), .val (.int j12_s0), .val (.int j26_s0), .val (.int j40_s0), .val (.int v45), .val (.int v53), .val (.int v60), .val (.ref b64), .unset, .unset, .unset] [(.int (0 : Int32)), (.ref b64)])) t
    refine XS.lloadN X19.here hx rfl (hb hby at_71) rfl ?_
    show Steps p.tables e below (T19.setTop (mkF m 72 #[.val (.long q0), .second, .val (.int p1), .val (.int p2), .val (.int p3), .val (.int j12_s0), .val (.int j26_s0), .val (.int j40_s0), .val (.int v45), .val (.int v53), .val (.int v60), .val (.ref b64), .unset, .unset, .unset] [(.long q0), (.int (0 : Int32)), (.ref b64)])) t
    refine XS.l2i X19.here hx rfl (hb hby at_72) rfl ?_
    show Steps p.tables e below (T19.setTop (mkF m 73 #[.val (.long q0), .second, .val (.int p1), .val (.int p2), .val (.int p3), .val (.int j12_s0), .val (.int j26_s0), .val (.int j40_s0), .val (.int v45), .val (.int v53), .val (.int v60), .val (.ref b64), .unset, .unset, .unset] [(.int (q0.toInt32)), (.int (0 : Int32)), (.ref b64)])) t
    refine XS.i2b X19.here hx rfl (hb hby at_73) rfl ?_
    show Steps p.tables e below (T19.setTop (mkF m 74 #[.val (.long q0), .second, .val (.int p1), .val (.int p2), .val (.int p3), .val (.int j12_s0), .val (.int j26_s0), .val (.int j40_s0), .val (.int v45), .val (.int v53), .val (.int v60), .val (.ref b64), .unset, .unset, .unset] [(.int ((q0.toInt32).toInt8.toInt32)), (.int (0 : Int32)), (.ref b64)])) t
    refine st20 _ ?_
    show Steps p.tables e below (T20.setTop (mkF m 75 #[.val (.long q0), .second, .val (.int p1), .val (.int p2), .val (.int p3), .val (.int j12_s0), .val (.int j26_s0), .val (.int j40_s0), .val (.int v45), .val (.int v53), .val (.int v60), .val (.ref b64), .unset, .unset, .unset] [])) t
    refine XS.aload X20.here hx rfl (hb hby at_75) rfl rfl ?_
    show Steps p.tables e below (T20.setTop (mkF m 77 #[.val (.long q0), .second, .val (.int p1), .val (.int p2), .val (.int p3), .val (.int j12_s0), .val (.int j26_s0), .val (.int j40_s0), .val (.int v45), .val (.int v53), .val (.int v60), .val (.ref b64), .unset, .unset, .unset] [(.ref b64)])) t
    refine XS.iconst X20.here hx rfl (hb hby at_77) ?_
    show Steps p.tables e below (T20.setTop (mkF m 78 #[.val (.long q0), .second, .val (.int p1), .val (.int p2), .val (.int p3), .val (.int j12_s0), .val (.int j26_s0), .val (.int j40_s0), .val (.int v45), .val (.int v53), .val (.int v60), .val (.ref b64), .unset, .unset, .unset] [(.int (1 : Int32)), (.ref b64)])) t
    refine XS.lloadN X20.here hx rfl (hb hby at_78) rfl ?_
    show Steps p.tables e below (T20.setTop (mkF m 79 #[.val (.long q0), .second, .val (.int p1), .val (.int p2), .val (.int p3), .val (.int j12_s0), .val (.int j26_s0), .val (.int j40_s0), .val (.int v45), .val (.int v53), .val (.int v60), .val (.ref b64), .unset, .unset, .unset] [(.long q0), (.int (1 : Int32)), (.ref b64)])) t
    refine XS.bipush X20.here hx rfl (hb hby at_79) ?_
    show Steps p.tables e below (T20.setTop (mkF m 81 #[.val (.long q0), .second, .val (.int p1), .val (.int p2), .val (.int p3), .val (.int j12_s0), .val (.int j26_s0), .val (.int j40_s0), .val (.int v45), .val (.int v53), .val (.int v60), .val (.ref b64), .unset, .unset, .unset] [(.int (8 : Int32)), (.long q0), (.int (1 : Int32)), (.ref b64)])) t
    refine XS.lushr X20.here hx rfl (hb hby at_81) rfl ?_
    show Steps p.tables e below (T20.setTop (mkF m 82 #[.val (.long q0), .second, .val (.int p1), .val (.int p2), .val (.int p3), .val (.int j12_s0), .val (.int j26_s0), .val (.int j40_s0), .val (.int v45), .val (.int v53), .val (.int v60), .val (.ref b64), .unset, .unset, .unset] [(.long ((q0.toUInt64 >>> ((8 : Int32) &&& 0x3f).toInt64.toUInt64).toInt64)), (.int (1 : Int32)), (.ref b64)])) t
    refine XS.l2i X20.here hx rfl (hb hby at_82) rfl ?_
    show Steps p.tables e below (T20.setTop (mkF m 83 #[.val (.long q0), .second, .val (.int p1), .val (.int p2), .val (.int p3), .val (.int j12_s0), .val (.int j26_s0), .val (.int j40_s0), .val (.int v45), .val (.int v53), .val (.int v60), .val (.ref b64), .unset, .unset, .unset] [(.int (((q0.toUInt64 >>> ((8 : Int32) &&& 0x3f).toInt64.toUInt64).toInt64).toInt32)), (.int (1 : Int32)), (.ref b64)])) t
    refine XS.i2b X20.here hx rfl (hb hby at_83) rfl ?_
    show Steps p.tables e below (T20.setTop (mkF m 84 #[.val (.long q0), .second, .val (.int p1), .val (.int p2), .val (.int p3), .val (.int j12_s0), .val (.int j26_s0), .val (.int j40_s0), .val (.int v45), .val (.int v53), .val (.int v60), .val (.ref b64), .unset, .unset, .unset] [(.int ((((q0.toUInt64 >>> ((8 : Int32) &&& 0x3f).toInt64.toUInt64).toInt64).toInt32).toInt8.toInt32)), (.int (1 : Int32)), (.ref b64)])) t
    refine st21 _ ?_
    show Steps p.tables e below (T21.setTop (mkF m 85 #[.val (.long q0), .second, .val (.int p1), .val (.int p2), .val (.int p3), .val (.int j12_s0), .val (.int j26_s0), .val (.int j40_s0), .val (.int v45), .val (.int v53), .val (.int v60), .val (.ref b64), .unset, .unset, .unset] [])) t
    refine XS.aload X21.here hx rfl (hb hby at_85) rfl rfl ?_
    show Steps p.tables e below (T21.setTop (mkF m 87 #[.val (.long q0), .second, .val (.int p1), .val (.int p2), .val (.int p3), .val (.int j12_s0), .val (.int j26_s0), .val (.int j40_s0), .val (.int v45), .val (.int v53), .val (.int v60), .val (.ref b64), .unset, .unset, .unset] [(.ref b64)])) t
    refine XS.iconst X21.here hx rfl (hb hby at_87) ?_
    show Steps p.tables e below (T21.setTop (mkF m 88 #[.val (.long q0), .second, .val (.int p1), .val (.int p2), .val (.int p3), .val (.int j12_s0), .val (.int j26_s0), .val (.int j40_s0), .val (.int v45), .val (.int v53), .val (.int v60), .val (.ref b64), .unset, .unset, .unset] [(.int (2 : Int32)), (.ref b64)])) t
    refine XS.lloadN X21.here hx rfl (hb hby at_88) rfl ?_
    show Steps p.tables e below (T21.setTop (mkF m 89 #[.val (.long q0), .second, .val (.int p1), .val (.int p2), .val (.int p3), .val (.int j12_s0), .val (.int j26_s0), .val (.int j40_s0), .val (.int v45), .val (.int v53), .val (.int v60), .val (.ref b64), .unset, .unset, .unset] [(.long q0), (.int (2 : Int32)), (.ref b64)])) t
    refine XS.bipush X21.here hx rfl (hb hby at_89) ?_
    show Steps p.tables e below (T21.setTop (mkF m 91 #[.val (.long q0), .second, .val (.int p1), .val (.int p2), .val (.int p3), .val (.int j12_s0), .val (.int j26_s0), .val (.int j40_s0), .val (.int v45), .val (.int v53), .val (.int v60), .val (.ref b64), .unset, .unset, .unset] [(.int (16 : Int32)), (.long q0), (.int (2 : Int32)), (.ref b64)])) t
    refine XS.lushr X21.here hx rfl (hb hby at_91) rfl ?_
    show Steps p.tables e below (T21.setTop (mkF m 92 #[.val (.long q0), .second, .val (.int p1), .val (.int p2), .val (.int p3), .val (.int j12_s0), .val (.int j26_s0), .val (.int j40_s0), .val (.int v45), .val (.int v53), .val (.int v60), .val (.ref b64), .unset, .unset, .unset] [(.long ((q0.toUInt64 >>> ((16 : Int32) &&& 0x3f).toInt64.toUInt64).toInt64)), (.int (2 : Int32)), (.ref b64)])) t
    refine XS.l2i X21.here hx rfl (hb hby at_92) rfl ?_
    show Steps p.tables e below (T21.setTop (mkF m 93 #[.val (.long q0), .second, .val (.int p1), .val (.int p2), .val (.int p3), .val (.int j12_s0), .val (.int j26_s0), .val (.int j40_s0), .val (.int v45), .val (.int v53), .val (.int v60), .val (.ref b64), .unset, .unset, .unset] [(.int (((q0.toUInt64 >>> ((16 : Int32) &&& 0x3f).toInt64.toUInt64).toInt64).toInt32)), (.int (2 : Int32)), (.ref b64)])) t
    refine XS.i2b X21.here hx rfl (hb hby at_93) rfl ?_
    show Steps p.tables e below (T21.setTop (mkF m 94 #[.val (.long q0), .second, .val (.int p1), .val (.int p2), .val (.int p3), .val (.int j12_s0), .val (.int j26_s0), .val (.int j40_s0), .val (.int v45), .val (.int v53), .val (.int v60), .val (.ref b64), .unset, .unset, .unset] [(.int ((((q0.toUInt64 >>> ((16 : Int32) &&& 0x3f).toInt64.toUInt64).toInt64).toInt32).toInt8.toInt32)), (.int (2 : Int32)), (.ref b64)])) t
    refine st22 _ ?_
    show Steps p.tables e below (T22.setTop (mkF m 95 #[.val (.long q0), .second, .val (.int p1), .val (.int p2), .val (.int p3), .val (.int j12_s0), .val (.int j26_s0), .val (.int j40_s0), .val (.int v45), .val (.int v53), .val (.int v60), .val (.ref b64), .unset, .unset, .unset] [])) t
    refine XS.aload X22.here hx rfl (hb hby at_95) rfl rfl ?_
    show Steps p.tables e below (T22.setTop (mkF m 97 #[.val (.long q0), .second, .val (.int p1), .val (.int p2), .val (.int p3), .val (.int j12_s0), .val (.int j26_s0), .val (.int j40_s0), .val (.int v45), .val (.int v53), .val (.int v60), .val (.ref b64), .unset, .unset, .unset] [(.ref b64)])) t
    refine XS.iconst X22.here hx rfl (hb hby at_97) ?_
    show Steps p.tables e below (T22.setTop (mkF m 98 #[.val (.long q0), .second, .val (.int p1), .val (.int p2), .val (.int p3), .val (.int j12_s0), .val (.int j26_s0), .val (.int j40_s0), .val (.int v45), .val (.int v53), .val (.int v60), .val (.ref b64), .unset, .unset, .unset] [(.int (3 : Int32)), (.ref b64)])) t
    refine XS.lloadN X22.here hx rfl (hb hby at_98) rfl ?_
    show Steps p.tables e below (T22.setTop (mkF m 99 #[.val (.long q0), .second, .val (.int p1), .val (.int p2), .val (.int p3), .val (.int j12_s0), .val (.int j26_s0), .val (.int j40_s0), .val (.int v45), .val (.int v53), .val (.int v60), .val (.ref b64), .unset, .unset, .unset] [(.long q0), (.int (3 : Int32)), (.ref b64)])) t
    refine XS.bipush X22.here hx rfl (hb hby at_99) ?_
    show Steps p.tables e below (T22.setTop (mkF m 101 #[.val (.long q0), .second, .val (.int p1), .val (.int p2), .val (.int p3), .val (.int j12_s0), .val (.int j26_s0), .val (.int j40_s0), .val (.int v45), .val (.int v53), .val (.int v60), .val (.ref b64), .unset, .unset, .unset] [(.int (24 : Int32)), (.long q0), (.int (3 : Int32)), (.ref b64)])) t
    refine XS.lushr X22.here hx rfl (hb hby at_101) rfl ?_
    show Steps p.tables e below (T22.setTop (mkF m 102 #[.val (.long q0), .second, .val (.int p1), .val (.int p2), .val (.int p3), .val (.int j12_s0), .val (.int j26_s0), .val (.int j40_s0), .val (.int v45), .val (.int v53), .val (.int v60), .val (.ref b64), .unset, .unset, .unset] [(.long ((q0.toUInt64 >>> ((24 : Int32) &&& 0x3f).toInt64.toUInt64).toInt64)), (.int (3 : Int32)), (.ref b64)])) t
    refine XS.l2i X22.here hx rfl (hb hby at_102) rfl ?_
    show Steps p.tables e below (T22.setTop (mkF m 103 #[.val (.long q0), .second, .val (.int p1), .val (.int p2), .val (.int p3), .val (.int j12_s0), .val (.int j26_s0), .val (.int j40_s0), .val (.int v45), .val (.int v53), .val (.int v60), .val (.ref b64), .unset, .unset, .unset] [(.int (((q0.toUInt64 >>> ((24 : Int32) &&& 0x3f).toInt64.toUInt64).toInt64).toInt32)), (.int (3 : Int32)), (.ref b64)])) t
    refine XS.i2b X22.here hx rfl (hb hby at_103) rfl ?_
    show Steps p.tables e below (T22.setTop (mkF m 104 #[.val (.long q0), .second, .val (.int p1), .val (.int p2), .val (.int p3), .val (.int j12_s0), .val (.int j26_s0), .val (.int j40_s0), .val (.int v45), .val (.int v53), .val (.int v60), .val (.ref b64), .unset, .unset, .unset] [(.int ((((q0.toUInt64 >>> ((24 : Int32) &&& 0x3f).toInt64.toUInt64).toInt64).toInt32).toInt8.toInt32)), (.int (3 : Int32)), (.ref b64)])) t
    refine st23 _ ?_
    show Steps p.tables e below (T23.setTop (mkF m 105 #[.val (.long q0), .second, .val (.int p1), .val (.int p2), .val (.int p3), .val (.int j12_s0), .val (.int j26_s0), .val (.int j40_s0), .val (.int v45), .val (.int v53), .val (.int v60), .val (.ref b64), .unset, .unset, .unset] [])) t
    refine XS.aload X23.here hx rfl (hb hby at_105) rfl rfl ?_
    show Steps p.tables e below (T23.setTop (mkF m 107 #[.val (.long q0), .second, .val (.int p1), .val (.int p2), .val (.int p3), .val (.int j12_s0), .val (.int j26_s0), .val (.int j40_s0), .val (.int v45), .val (.int v53), .val (.int v60), .val (.ref b64), .unset, .unset, .unset] [(.ref b64)])) t
    refine XS.iconst X23.here hx rfl (hb hby at_107) ?_
    show Steps p.tables e below (T23.setTop (mkF m 108 #[.val (.long q0), .second, .val (.int p1), .val (.int p2), .val (.int p3), .val (.int j12_s0), .val (.int j26_s0), .val (.int j40_s0), .val (.int v45), .val (.int v53), .val (.int v60), .val (.ref b64), .unset, .unset, .unset] [(.int (4 : Int32)), (.ref b64)])) t
    refine XS.lloadN X23.here hx rfl (hb hby at_108) rfl ?_
    show Steps p.tables e below (T23.setTop (mkF m 109 #[.val (.long q0), .second, .val (.int p1), .val (.int p2), .val (.int p3), .val (.int j12_s0), .val (.int j26_s0), .val (.int j40_s0), .val (.int v45), .val (.int v53), .val (.int v60), .val (.ref b64), .unset, .unset, .unset] [(.long q0), (.int (4 : Int32)), (.ref b64)])) t
    refine XS.bipush X23.here hx rfl (hb hby at_109) ?_
    show Steps p.tables e below (T23.setTop (mkF m 111 #[.val (.long q0), .second, .val (.int p1), .val (.int p2), .val (.int p3), .val (.int j12_s0), .val (.int j26_s0), .val (.int j40_s0), .val (.int v45), .val (.int v53), .val (.int v60), .val (.ref b64), .unset, .unset, .unset] [(.int (32 : Int32)), (.long q0), (.int (4 : Int32)), (.ref b64)])) t
    refine XS.lushr X23.here hx rfl (hb hby at_111) rfl ?_
    show Steps p.tables e below (T23.setTop (mkF m 112 #[.val (.long q0), .second, .val (.int p1), .val (.int p2), .val (.int p3), .val (.int j12_s0), .val (.int j26_s0), .val (.int j40_s0), .val (.int v45), .val (.int v53), .val (.int v60), .val (.ref b64), .unset, .unset, .unset] [(.long ((q0.toUInt64 >>> ((32 : Int32) &&& 0x3f).toInt64.toUInt64).toInt64)), (.int (4 : Int32)), (.ref b64)])) t
    refine XS.l2i X23.here hx rfl (hb hby at_112) rfl ?_
    show Steps p.tables e below (T23.setTop (mkF m 113 #[.val (.long q0), .second, .val (.int p1), .val (.int p2), .val (.int p3), .val (.int j12_s0), .val (.int j26_s0), .val (.int j40_s0), .val (.int v45), .val (.int v53), .val (.int v60), .val (.ref b64), .unset, .unset, .unset] [(.int (((q0.toUInt64 >>> ((32 : Int32) &&& 0x3f).toInt64.toUInt64).toInt64).toInt32)), (.int (4 : Int32)), (.ref b64)])) t
    refine XS.i2b X23.here hx rfl (hb hby at_113) rfl ?_
    show Steps p.tables e below (T23.setTop (mkF m 114 #[.val (.long q0), .second, .val (.int p1), .val (.int p2), .val (.int p3), .val (.int j12_s0), .val (.int j26_s0), .val (.int j40_s0), .val (.int v45), .val (.int v53), .val (.int v60), .val (.ref b64), .unset, .unset, .unset] [(.int ((((q0.toUInt64 >>> ((32 : Int32) &&& 0x3f).toInt64.toUInt64).toInt64).toInt32).toInt8.toInt32)), (.int (4 : Int32)), (.ref b64)])) t
    refine st24 _ ?_
    show Steps p.tables e below (T24.setTop (mkF m 115 #[.val (.long q0), .second, .val (.int p1), .val (.int p2), .val (.int p3), .val (.int j12_s0), .val (.int j26_s0), .val (.int j40_s0), .val (.int v45), .val (.int v53), .val (.int v60), .val (.ref b64), .unset, .unset, .unset] [])) t
    refine XS.aload X24.here hx rfl (hb hby at_115) rfl rfl ?_
    show Steps p.tables e below (T24.setTop (mkF m 117 #[.val (.long q0), .second, .val (.int p1), .val (.int p2), .val (.int p3), .val (.int j12_s0), .val (.int j26_s0), .val (.int j40_s0), .val (.int v45), .val (.int v53), .val (.int v60), .val (.ref b64), .unset, .unset, .unset] [(.ref b64)])) t
    refine XS.iconst X24.here hx rfl (hb hby at_117) ?_
    show Steps p.tables e below (T24.setTop (mkF m 118 #[.val (.long q0), .second, .val (.int p1), .val (.int p2), .val (.int p3), .val (.int j12_s0), .val (.int j26_s0), .val (.int j40_s0), .val (.int v45), .val (.int v53), .val (.int v60), .val (.ref b64), .unset, .unset, .unset] [(.int (5 : Int32)), (.ref b64)])) t
    refine XS.lloadN X24.here hx rfl (hb hby at_118) rfl ?_
    show Steps p.tables e below (T24.setTop (mkF m 119 #[.val (.long q0), .second, .val (.int p1), .val (.int p2), .val (.int p3), .val (.int j12_s0), .val (.int j26_s0), .val (.int j40_s0), .val (.int v45), .val (.int v53), .val (.int v60), .val (.ref b64), .unset, .unset, .unset] [(.long q0), (.int (5 : Int32)), (.ref b64)])) t
    refine XS.bipush X24.here hx rfl (hb hby at_119) ?_
    show Steps p.tables e below (T24.setTop (mkF m 121 #[.val (.long q0), .second, .val (.int p1), .val (.int p2), .val (.int p3), .val (.int j12_s0), .val (.int j26_s0), .val (.int j40_s0), .val (.int v45), .val (.int v53), .val (.int v60), .val (.ref b64), .unset, .unset, .unset] [(.int (40 : Int32)), (.long q0), (.int (5 : Int32)), (.ref b64)])) t
    refine XS.lushr X24.here hx rfl (hb hby at_121) rfl ?_
    show Steps p.tables e below (T24.setTop (mkF m 122 #[.val (.long q0), .second, .val (.int p1), .val (.int p2), .val (.int p3), .val (.int j12_s0), .val (.int j26_s0), .val (.int j40_s0), .val (.int v45), .val (.int v53), .val (.int v60), .val (.ref b64), .unset, .unset, .unset] [(.long ((q0.toUInt64 >>> ((40 : Int32) &&& 0x3f).toInt64.toUInt64).toInt64)), (.int (5 : Int32)), (.ref b64)])) t
    refine XS.l2i X24.here hx rfl (hb hby at_122) rfl ?_
    show Steps p.tables e below (T24.setTop (mkF m 123 #[.val (.long q0), .second, .val (.int p1), .val (.int p2), .val (.int p3), .val (.int j12_s0), .val (.int j26_s0), .val (.int j40_s0), .val (.int v45), .val (.int v53), .val (.int v60), .val (.ref b64), .unset, .unset, .unset] [(.int (((q0.toUInt64 >>> ((40 : Int32) &&& 0x3f).toInt64.toUInt64).toInt64).toInt32)), (.int (5 : Int32)), (.ref b64)])) t
    refine XS.i2b X24.here hx rfl (hb hby at_123) rfl ?_
    show Steps p.tables e below (T24.setTop (mkF m 124 #[.val (.long q0), .second, .val (.int p1), .val (.int p2), .val (.int p3), .val (.int j12_s0), .val (.int j26_s0), .val (.int j40_s0), .val (.int v45), .val (.int v53), .val (.int v60), .val (.ref b64), .unset, .unset, .unset] [(.int ((((q0.toUInt64 >>> ((40 : Int32) &&& 0x3f).toInt64.toUInt64).toInt64).toInt32).toInt8.toInt32)), (.int (5 : Int32)), (.ref b64)])) t
    refine st25 _ ?_
    show Steps p.tables e below (T25.setTop (mkF m 125 #[.val (.long q0), .second, .val (.int p1), .val (.int p2), .val (.int p3), .val (.int j12_s0), .val (.int j26_s0), .val (.int j40_s0), .val (.int v45), .val (.int v53), .val (.int v60), .val (.ref b64), .unset, .unset, .unset] [])) t
    refine XS.aload X25.here hx rfl (hb hby at_125) rfl rfl ?_
    show Steps p.tables e below (T25.setTop (mkF m 127 #[.val (.long q0), .second, .val (.int p1), .val (.int p2), .val (.int p3), .val (.int j12_s0), .val (.int j26_s0), .val (.int j40_s0), .val (.int v45), .val (.int v53), .val (.int v60), .val (.ref b64), .unset, .unset, .unset] [(.ref b64)])) t
    refine XS.bipush X25.here hx rfl (hb hby at_127) ?_
    show Steps p.tables e below (T25.setTop (mkF m 129 #[.val (.long q0), .second, .val (.int p1), .val (.int p2), .val (.int p3), .val (.int j12_s0), .val (.int j26_s0), .val (.int j40_s0), .val (.int v45), .val (.int v53), .val (.int v60), .val (.ref b64), .unset, .unset, .unset] [(.int (6 : Int32)), (.ref b64)])) t
    refine XS.lloadN X25.here hx rfl (hb hby at_129) rfl ?_
    show Steps p.tables e below (T25.setTop (mkF m 130 #[.val (.long q0), .second, .val (.int p1), .val (.int p2), .val (.int p3), .val (.int j12_s0), .val (.int j26_s0), .val (.int j40_s0), .val (.int v45), .val (.int v53), .val (.int v60), .val (.ref b64), .unset, .unset, .unset] [(.long q0), (.int (6 : Int32)), (.ref b64)])) t
    refine XS.bipush X25.here hx rfl (hb hby at_130) ?_
    show Steps p.tables e below (T25.setTop (mkF m 132 #[.val (.long q0), .second, .val (.int p1), .val (.int p2), .val (.int p3), .val (.int j12_s0), .val (.int j26_s0), .val (.int j40_s0), .val (.int v45), .val (.int v53), .val (.int v60), .val (.ref b64), .unset, .unset, .unset] [(.int (48 : Int32)), (.long q0), (.int (6 : Int32)), (.ref b64)])) t
    refine XS.lushr X25.here hx rfl (hb hby at_132) rfl ?_
    show Steps p.tables e below (T25.setTop (mkF m 133 #[.val (.long q0), .second, .val (.int p1), .val (.int p2), .val (.int p3), .val (.int j12_s0), .val (.int j26_s0), .val (.int j40_s0), .val (.int v45), .val (.int v53), .val (.int v60), .val (.ref b64), .unset, .unset, .unset] [(.long ((q0.toUInt64 >>> ((48 : Int32) &&& 0x3f).toInt64.toUInt64).toInt64)), (.int (6 : Int32)), (.ref b64)])) t
    refine XS.l2i X25.here hx rfl (hb hby at_133) rfl ?_
    show Steps p.tables e below (T25.setTop (mkF m 134 #[.val (.long q0), .second, .val (.int p1), .val (.int p2), .val (.int p3), .val (.int j12_s0), .val (.int j26_s0), .val (.int j40_s0), .val (.int v45), .val (.int v53), .val (.int v60), .val (.ref b64), .unset, .unset, .unset] [(.int (((q0.toUInt64 >>> ((48 : Int32) &&& 0x3f).toInt64.toUInt64).toInt64).toInt32)), (.int (6 : Int32)), (.ref b64)])) t
    refine XS.i2b X25.here hx rfl (hb hby at_134) rfl ?_
    show Steps p.tables e below (T25.setTop (mkF m 135 #[.val (.long q0), .second, .val (.int p1), .val (.int p2), .val (.int p3), .val (.int j12_s0), .val (.int j26_s0), .val (.int j40_s0), .val (.int v45), .val (.int v53), .val (.int v60), .val (.ref b64), .unset, .unset, .unset] [(.int ((((q0.toUInt64 >>> ((48 : Int32) &&& 0x3f).toInt64.toUInt64).toInt64).toInt32).toInt8.toInt32)), (.int (6 : Int32)), (.ref b64)])) t
    refine st26 _ ?_
    show Steps p.tables e below (T26.setTop (mkF m 136 #[.val (.long q0), .second, .val (.int p1), .val (.int p2), .val (.int p3), .val (.int j12_s0), .val (.int j26_s0), .val (.int j40_s0), .val (.int v45), .val (.int v53), .val (.int v60), .val (.ref b64), .unset, .unset, .unset] [])) t
    refine XS.aload X26.here hx rfl (hb hby at_136) rfl rfl ?_
    show Steps p.tables e below (T26.setTop (mkF m 138 #[.val (.long q0), .second, .val (.int p1), .val (.int p2), .val (.int p3), .val (.int j12_s0), .val (.int j26_s0), .val (.int j40_s0), .val (.int v45), .val (.int v53), .val (.int v60), .val (.ref b64), .unset, .unset, .unset] [(.ref b64)])) t
    refine XS.bipush X26.here hx rfl (hb hby at_138) ?_
    show Steps p.tables e below (T26.setTop (mkF m 140 #[.val (.long q0), .second, .val (.int p1), .val (.int p2), .val (.int p3), .val (.int j12_s0), .val (.int j26_s0), .val (.int j40_s0), .val (.int v45), .val (.int v53), .val (.int v60), .val (.ref b64), .unset, .unset, .unset] [(.int (7 : Int32)), (.ref b64)])) t
    refine XS.lloadN X26.here hx rfl (hb hby at_140) rfl ?_
    show Steps p.tables e below (T26.setTop (mkF m 141 #[.val (.long q0), .second, .val (.int p1), .val (.int p2), .val (.int p3), .val (.int j12_s0), .val (.int j26_s0), .val (.int j40_s0), .val (.int v45), .val (.int v53), .val (.int v60), .val (.ref b64), .unset, .unset, .unset] [(.long q0), (.int (7 : Int32)), (.ref b64)])) t
    refine XS.bipush X26.here hx rfl (hb hby at_141) ?_
    show Steps p.tables e below (T26.setTop (mkF m 143 #[.val (.long q0), .second, .val (.int p1), .val (.int p2), .val (.int p3), .val (.int j12_s0), .val (.int j26_s0), .val (.int j40_s0), .val (.int v45), .val (.int v53), .val (.int v60), .val (.ref b64), .unset, .unset, .unset] [(.int (56 : Int32)), (.long q0), (.int (7 : Int32)), (.ref b64)])) t
    refine XS.lushr X26.here hx rfl (hb hby at_143) rfl ?_
    show Steps p.tables e below (T26.setTop (mkF m 144 #[.val (.long q0), .second, .val (.int p1), .val (.int p2), .val (.int p3), .val (.int j12_s0), .val (.int j26_s0), .val (.int j40_s0), .val (.int v45), .val (.int v53), .val (.int v60), .val (.ref b64), .unset, .unset, .unset] [(.long ((q0.toUInt64 >>> ((56 : Int32) &&& 0x3f).toInt64.toUInt64).toInt64)), (.int (7 : Int32)), (.ref b64)])) t
    refine XS.l2i X26.here hx rfl (hb hby at_144) rfl ?_
    show Steps p.tables e below (T26.setTop (mkF m 145 #[.val (.long q0), .second, .val (.int p1), .val (.int p2), .val (.int p3), .val (.int j12_s0), .val (.int j26_s0), .val (.int j40_s0), .val (.int v45), .val (.int v53), .val (.int v60), .val (.ref b64), .unset, .unset, .unset] [(.int (((q0.toUInt64 >>> ((56 : Int32) &&& 0x3f).toInt64.toUInt64).toInt64).toInt32)), (.int (7 : Int32)), (.ref b64)])) t
    refine XS.i2b X26.here hx rfl (hb hby at_145) rfl ?_
    show Steps p.tables e below (T26.setTop (mkF m 146 #[.val (.long q0), .second, .val (.int p1), .val (.int p2), .val (.int p3), .val (.int j12_s0), .val (.int j26_s0), .val (.int j40_s0), .val (.int v45), .val (.int v53), .val (.int v60), .val (.ref b64), .unset, .unset, .unset] [(.int ((((q0.toUInt64 >>> ((56 : Int32) &&& 0x3f).toInt64.toUInt64).toInt64).toInt32).toInt8.toInt32)), (.int (7 : Int32)), (.ref b64)])) t
    refine st27 _ ?_
    show Steps p.tables e below (T27.setTop (mkF m 147 #[.val (.long q0), .second, .val (.int p1), .val (.int p2), .val (.int p3), .val (.int j12_s0), .val (.int j26_s0), .val (.int j40_s0), .val (.int v45), .val (.int v53), .val (.int v60), .val (.ref b64), .unset, .unset, .unset] [])) t
    refine XS.iload X27.here hx rfl (hb hby at_147) rfl ?_
    show Steps p.tables e below (T27.setTop (mkF m 149 #[.val (.long q0), .second, .val (.int p1), .val (.int p2), .val (.int p3), .val (.int j12_s0), .val (.int j26_s0), .val (.int j40_s0), .val (.int v45), .val (.int v53), .val (.int v60), .val (.ref b64), .unset, .unset, .unset] [(.int v60)])) t
    refine XS.iconst X27.here hx rfl (hb hby at_149) ?_
    exact kt
  obtain ⟨jf193, o193_12, T42, lc43, h41, hjf193, hoo193_12, X44, e45, N46, Z47, F48, K49⟩ : ∃ (jf193 : Nat → Int32) (o193_12 : Slot) (T42 : State) (lc43 : List Loc) (h41 : Heap), jf193 = (if v60 < (1 : Int32) then f146 else (upd f146 ((v60 - (1 : Int32))).toNatClampNeg (nar .byte (if j26_s0 = (0 : Int32) then (if (f146 ((v60 - (1 : Int32))).toNatClampNeg) = (93 : Int32) then (94 : Int32) else (f146 ((v60 - (1 : Int32))).toNatClampNeg)) else (93 : Int32))))) ∧ One o193_12 ∧ Stand p l e room_1 s m #[(.long q0), (.int p1), (.int p2), (.int p3)] below meth c T42 lc43 1 8 ∧ T42.heap = h41 ∧ Fr n0 lc43 ∧ n0 ≤ h41.size ∧ IA Z h41 b64 .byte 8 jf193 ∧ ∀ t, Steps p.tables e below (T42.setTop (mkF m 193 #[.val (.long q0), .second, .val (.int p1), .val (.int p2), .val (.int p3), .val (.int j12_s0), .val (.int j26_s0), .val (.int j40_s0), .val (.int v45), .val (.int v53), .val (.int v60), .val (.ref b64), o193_12, .unset, .unset] [])) t → P0 t := by
    by_cases hc150 : v60 < (1 : Int32)
    · have K29 : ∀ t, Steps p.tables e below (T27.setTop (mkF m 193 #[.val (.long q0), .second, .val (.int p1), .val (.int p2), .val (.int p3), .val (.int j12_s0), .val (.int j26_s0), .val (.int j40_s0), .val (.int v45), .val (.int v53), .val (.int v60), .val (.ref b64), .unset, .unset, .unset] [])) t → P0 t := by
        intro t kt
        refine K28 t ?_
        show Steps p.tables e below (T27.setTop (mkF m 150 #[.val (.long q0), .second, .val (.int p1), .val (.int p2), .val (.int p3), .val (.int j12_s0), .val (.int j26_s0), .val (.int j40_s0), .val (.int v45), .val (.int v53), .val (.int v60), .val (.ref b64), .unset, .unset, .unset] [(.int (1 : Int32)), (.int v60)])) t
        refine XS.icmpYes X27.here hx rfl (pc0 := 150) (pc' := 193) rfl (hb hby at_150) rfl (tlt hc150).1 (by decide) (by decide) ?_
        exact kt
      exact ⟨_, .unset, _, _, _, (if_pos hc150).symm, One.u, X27, e27, N27, Z27, V27', K29⟩
    · have K30 : ∀ t, Steps p.tables e below (T27.setTop (mkF m 162 #[.val (.long q0), .second, .val (.int p1), .val (.int p2), .val (.int p3), .val (.int j12_s0), .val (.int j26_s0), .val (.int j40_s0), .val (.int v45), .val (.int v53), .val (.int v60), .val (.ref b64), .val (.int (f146 ((v60 - (1 : Int32))).toNatClampNeg)), .unset, .unset] [])) t → P0 t := by
        intro t kt
        refine K28 t ?_
        show Steps p.tables e below (T27.setTop (mkF m 150 #[.val (.long q0), .second, .val (.int p1), .val (.int p2), .val (.int p3), .val (.int j12_s0), .val (.int j26_s0), .val (.int j40_s0), .val (.int v45), .val (.int v53), .val (.int v60), .val (.ref b64), .unset, .unset, .unset] [(.int (1 : Int32)), (.int v60)])) t
        refine XS.icmpNo X27.here hx rfl (hb hby at_150) rfl (flt hc150).1 ?_
        show Steps p.tables e below (T27.setTop (mkF m 153 #[.val (.long q0), .second, .val (.int p1), .val (.int p2), .val (.int p3), .val (.int j12_s0), .val (.int j26_s0), .val (.int j40_s0), .val (.int v45), .val (.int v53), .val (.int v60), .val (.ref b64), .unset, .unset, .unset] [])) t
        refine XS.aload X27.here hx rfl (hb hby at_153) rfl rfl ?_
        show Steps p.tables e below (T27.setTop (mkF m 155 #[.val (.long q0), .second, .val (.int p1), .val (.int p2), .val (.int p3), .val (.int j12_s0), .val (.int j26_s0), .val (.int j40_s0), .val (.int v45), .val (.int v53), .val (.int v60), .val (.ref b64), .unset, .unset, .unset] [(.ref b64)])) t
        refine XS.iload X27.here hx rfl (hb hby at_155) rfl ?_
        show Steps p.tables e below (T27.setTop (mkF m 157 #[.val (.long q0), .second, .val (.int p1), .val (.int p2), .val (.int p3), .val (.int j12_s0), .val (.int j26_s0), .val (.int j40_s0), .val (.int v45), .val (.int v53), .val (.int v60), .val (.ref b64), .unset, .unset, .unset] [(.int v60), (.ref b64)])) t
        refine XS.iconst X27.here hx rfl (hb hby at_157) ?_
        show Steps p.tables e below (T27.setTop (mkF m 158 #[.val (.long q0), .second, .val (.int p1), .val (.int p2), .val (.int p3), .val (.int j12_s0), .val (.int j26_s0), .val (.int j40_s0), .val (.int v45), .val (.int v53), .val (.int v60), .val (.ref b64), .unset, .unset, .unset] [(.int (1 : Int32)), (.int v60), (.ref b64)])) t
        refine XS.isub X27.here hx rfl (hb hby at_158) rfl ?_
        show Steps p.tables e below (T27.setTop (mkF m 159 #[.val (.long q0), .second, .val (.int p1), .val (.int p2), .val (.int p3), .val (.int j12_s0), .val (.int j26_s0), .val (.int j40_s0), .val (.int v45), .val (.int v53), .val (.int v60), .val (.ref b64), .unset, .unset, .unset] [(.int (v60 - (1 : Int32))), (.ref b64)])) t
        refine ldBA X27 hx hZ e27 V27' (j := (v60 - (1 : Int32))) (own_i1 hv45 hv53 hv60 hc150) (g := (mkF m 159 #[.val (.long q0), .second, .val (.int p1), .val (.int p2), .val (.int p3), .val (.int j12_s0), .val (.int j26_s0), .val (.int j40_s0), .val (.int v45), .val (.int v53), .val (.int v60), .val (.ref b64), .unset, .unset, .unset] [(.int (v60 - (1 : Int32))), (.ref b64)])) rfl rfl (hb hby at_159) _ ?_
        show Steps p.tables e below (T27.setTop (mkF m 160 #[.val (.long q0), .second, .val (.int p1), .val (.int p2), .val (.int p3), .val (.int j12_s0), .val (.int j26_s0), .val (.int j40_s0), .val (.int v45), .val (.int v53), .val (.int v60), .val (.ref b64), .unset, .unset, .unset] [(.int (f146 ((v60 - (1 : Int32))).toNatClampNeg))])) t
        refine XS.istore X27.here hx rfl (hb hby at_160) rfl (l' := #[.val (.long q0), .second, .val (.int p1), .val (.int p2), .val (.int p3), .val (.int j12_s0), .val (.int j26_s0), .val (.int j40_s0), .val (.int v45), .val (.int v53), .val (.int v60), .val (.ref b64), .val (.int (f146 ((v60 - (1 : Int32))).toNatClampNeg)), .unset, .unset]) rfl ?_
        exact kt
      obtain ⟨v160, hv160, K31⟩ : ∃ v160 : Int32, v160 = (f146 ((v60 - (1 : Int32))).toNatClampNeg) ∧ ∀ t, Steps p.tables e below (T27.setTop (mkF m 162 #[.val (.long q0), .second, .val (.int p1), .val (.int p2), .val (.int p3), .val (.int j12_s0), .val (.int j26_s0), .val (.int j40_s0), .val (.int v45), .val (.int v53), .val (.int v60), .val (.ref b64), .val (.int v160), .unset, .unset] [])) t → P0 t := ⟨_, rfl, K30⟩
      have K32 : ∀ t, Steps p.tables e below (T27.setTop (mkF m 170 #[.val (.long q0), .second, .val (.int p1), .val (.int p2), .val (.int p3), .val (.int j12_s0), .val (.int j26_s0), .val (.int j40_s0), .val (.int v45), .val (.int v53), .val (.int v60), .val (.ref b64), .val (.int v160), .unset, .unset] [(.int j26_s0), (.int (v60 - (1 : Int32))), (.ref b64)])) t → P0 t := by
        intro t kt
        refine K31 t ?_
        show Steps p.tables e below (T27.setTop (mkF m 162 #[.val (.long q0), .second, .val (.int p1), .val (.int p2), .val (.int p3), .val (.int j12_s0), .val (.int j26_s0), .val (.int j40_s0), .val (.int v45), .val (.int v53), .val (.int v60), .val (.ref b64), .val (.int v160), .unset, .unset] [])) t
        refine XS.aload X27.here hx rfl (hb hby at_162) rfl rfl ?_
        show Steps p.tables e below (T27.setTop (mkF m 164 #[.val (.long q0), .second, .val (.int p1), .val (.int p2), .val (.int p3), .val (.int j12_s0), .val (.int j26_s0), .val (.int j40_s0), .val (.int v45), .val (.int v53), .val (.int v60), .val (.ref b64), .val (.int v160), .unset, .unset] [(.ref b64)])) t
        refine XS.iload X27.here hx rfl (hb hby at_164) rfl ?_
        show Steps p.tables e below (T27.setTop (mkF m 166 #[.val (.long q0), .second, .val (.int p1), .val (.int p2), .val (.int p3), .val (.int j12_s0), .val (.int j26_s0), .val (.int j40_s0), .val (.int v45), .val (.int v53), .val (.int v60), .val (.ref b64), .val (.int v160), .unset, .unset] [(.int v60), (.ref b64)])) t
        refine XS.iconst X27.here hx rfl (hb hby at_166) ?_
        show Steps p.tables e below (T27.setTop (mkF m 167 #[.val (.long q0), .second, .val (.int p1), .val (.int p2), .val (.int p3), .val (.int j12_s0), .val (.int j26_s0), .val (.int j40_s0), .val (.int v45), .val (.int v53), .val (.int v60), .val (.ref b64), .val (.int v160), .unset, .unset] [(.int (1 : Int32)), (.int v60), (.ref b64)])) t
        refine XS.isub X27.here hx rfl (hb hby at_167) rfl ?_
        show Steps p.tables e below (T27.setTop (mkF m 168 #[.val (.long q0), .second, .val (.int p1), .val (.int p2), .val (.int p3), .val (.int j12_s0), .val (.int j26_s0), .val (.int j40_s0), .val (.int v45), .val (.int v53), .val (.int v60), .val (.ref b64), .val (.int v160), .unset, .unset] [(.int (v60 - (1 : Int32))), (.ref b64)])) t
        refine XS.iload X27.here hx rfl (hb hby at_168) rfl ?_
        exact kt
      obtain ⟨j192_s0_1, hj192_s0_1, K38⟩ : ∃ (j192_s0_1 : Int32), j192_s0_1 = (if j26_s0 = (0 : Int32) then (if v160 = (93 : Int32) then (94 : Int32) else v160) else (93 : Int32)) ∧ ∀ t, Steps p.tables e below (T27.setTop (mkF m 192 #[.val (.long q0), .second, .val (.int p1), .val (.int p2), .val (.int p3), .val (.int j12_s0), .val (.int j26_s0), .val (.int j40_s0), .val (.int v45), .val (.int v53), .val (.int v60), .val (.ref b64), .val (.int v160), .unset, .unset] [(.int j192_s0_1), (.int (v60 - (1 : Int32))), (.ref b64)])) t → P0 t := by
        by_cases hc170 : j26_s0 = (0 : Int32)
        · have K33 : ∀ t, Steps p.tables e below (T27.setTop (mkF m 182 #[.val (.long q0), .second, .val (.int p1), .val (.int p2), .val (.int p3), .val (.int j12_s0), .val (.int j26_s0), .val (.int j40_s0), .val (.int v45), .val (.int v53), .val (.int v60), .val (.ref b64), .val (.int v160), .unset, .unset] [(.int (93 : Int32)), (.int v160), (.int (v60 - (1 : Int32))), (.ref b64)])) t → P0 t := by
            intro t kt
            refine K32 t ?_
            show Steps p.tables e below (T27.setTop (mkF m 170 #[.val (.long q0), .second, .val (.int p1), .val (.int p2), .val (.int p3), .val (.int j12_s0), .val (.int j26_s0), .val (.int j40_s0), .val (.int v45), .val (.int v53), .val (.int v60), .val (.ref b64), .val (.int v160), .unset, .unset] [(.int j26_s0), (.int (v60 - (1 : Int32))), (.ref b64)])) t
            refine XS.ifYes X27.here hx rfl (pc0 := 170) (pc' := 178) rfl (hb hby at_170) rfl ((if0 _ _).trans (teq hc170).1) (by decide) (by decide) ?_
            show Steps p.tables e below (T27.setTop (mkF m 178 #[.val (.long q0), .second, .val (.int p1), .val (.int p2), .val (.int p3), .val (.int j12_s0), .val (.int j26_s0), .val (.int j40_s0), .val (.int v45), .val (.int v53), .val (.int v60), .val (.ref b64), .val (.int v160), .unset, .unset] [(.int (v60 - (1 : Int32))), (.ref b64)])) t
            refine XS.iload X27.here hx rfl (hb hby at_178) rfl ?_
            show Steps p.tables e below (T27.setTop (mkF m 180 #[.val (.long q0), .second, .val (.int p1), .val (.int p2), .val (.int p3), .val (.int j12_s0), .val (.int j26_s0), .val (.int j40_s0), .val (.int v45), .val (.int v53), .val (.int v60), .val (.ref b64), .val (.int v160), .unset, .unset] [(.int v160), (.int (v60 - (1 : Int32))), (.ref b64)])) t
            refine XS.bipush X27.here hx rfl (hb hby at_180) ?_
            exact kt
          obtain ⟨j192_s0, hj192_s0, K36⟩ : ∃ (j192_s0 : Int32), j192_s0 = (if v160 = (93 : Int32) then (94 : Int32) else v160) ∧ ∀ t, Steps p.tables e below (T27.setTop (mkF m 192 #[.val (.long q0), .second, .val (.int p1), .val (.int p2), .val (.int p3), .val (.int j12_s0), .val (.int j26_s0), .val (.int j40_s0), .val (.int v45), .val (.int v53), .val (.int v60), .val (.ref b64), .val (.int v160), .unset, .unset] [(.int j192_s0), (.int (v60 - (1 : Int32))), (.ref b64)])) t → P0 t := by
            by_cases hc182 : v160 = (93 : Int32)
            · have K34 : ∀ t, Steps p.tables e below (T27.setTop (mkF m 192 #[.val (.long q0), .second, .val (.int p1), .val (.int p2), .val (.int p3), .val (.int j12_s0), .val (.int j26_s0), .val (.int j40_s0), .val (.int v45), .val (.int v53), .val (.int v60), .val (.ref b64), .val (.int v160), .unset, .unset] [(.int (94 : Int32)), (.int (v60 - (1 : Int32))), (.ref b64)])) t → P0 t := by
                intro t kt
                refine K33 t ?_
                show Steps p.tables e below (T27.setTop (mkF m 182 #[.val (.long q0), .second, .val (.int p1), .val (.int p2), .val (.int p3), .val (.int j12_s0), .val (.int j26_s0), .val (.int j40_s0), .val (.int v45), .val (.int v53), .val (.int v60), .val (.ref b64), .val (.int v160), .unset, .unset] [(.int (93 : Int32)), (.int v160), (.int (v60 - (1 : Int32))), (.ref b64)])) t
                refine XS.icmpNo X27.here hx rfl (hb hby at_182) rfl (teq hc182).2 ?_
                show Steps p.tables e below (T27.setTop (mkF m 185 #[.val (.long q0), .second, .val (.int p1), .val (.int p2), .val (.int p3), .val (.int j12_s0), .val (.int j26_s0), .val (.int j40_s0), .val (.int v45), .val (.int v53), .val (.int v60), .val (.ref b64), .val (.int v160), .unset, .unset] [(.int (v60 - (1 : Int32))), (.ref b64)])) t
                refine XS.bipush X27.here hx rfl (hb hby at_185) ?_
                show Steps p.tables e below (T27.setTop (mkF m 187 #[.val (.long q0), .second, .val (.int p1), .val (.int p2), .val (.int p3), .val (.int j12_s0), .val (.int j26_s0), .val (.int j40_s0), .val (.int v45), .val (.int v53), .val (.int v60), .val (.ref b64), .val (.int v160), .unset, .unset] [(.int (94 : Int32)), (.int (v60 - (1 : Int32))), (.ref b64)])) t
                refine XS.goto X27.here hx rfl (pc0 := 187) (pc' := 192) rfl (hb hby at_187) (by decide) (by decide) ?_
                exact kt
              exact ⟨_, (if_pos hc182).symm, K34⟩
            · have K35 : ∀ t, Steps p.tables e below (T27.setTop (mkF m 192 #[.val (.long q0), .second, .val (.int p1), .val (.int p2), .val (.int p3), .val (.int j12_s0), .val (.int j26_s0), .val (.int j40_s0), .val (.int v45), .val (.int v53), .val (.int v60), .val (.ref b64), .val (.int v160), .unset, .unset] [(.int v160), (.int (v60 - (1 : Int32))), (.ref b64)])) t → P0 t := by
                intro t kt
                refine K33 t ?_
                show Steps p.tables e below (T27.setTop (mkF m 182 #[.val (.long q0), .second, .val (.int p1), .val (.int p2), .val (.int p3), .val (.int j12_s0), .val (.int j26_s0), .val (.int j40_s0), .val (.int v45), .val (.int v53), .val (.int v60), .val (.ref b64), .val (.int v160), .unset, .unset] [(.int (93 : Int32)), (.int v160), (.int (v60 - (1 : Int32))), (.ref b64)])) t
                refine XS.icmpYes X27.here hx rfl (pc0 := 182) (pc' := 190) rfl (hb hby at_182) rfl (feq hc182).2 (by decide) (by decide) ?_
                show Steps p.tables e below (T27.setTop (mkF m 190 #[.val (.long q0), .second, .val (.int p1), .val (.int p2), .val (.int p3), .val (.int j12_s0), .val (.int j26_s0), .val (.int j40_s0), .val (.int v45), .val (.int v53), .val (.int v60), .val (.ref b64), .val (.int v160), .unset, .unset] [(.int (v60 - (1 : Int32))), (.ref b64)])) t
                refine XS.iload X27.here hx rfl (hb hby at_190) rfl ?_
                exact kt
              exact ⟨_, (if_neg hc182).symm, K35⟩
          subst hj192_s0
          exact ⟨_, (if_pos hc170).symm, K36⟩
        · have K37 : ∀ t, Steps p.tables e below (T27.setTop (mkF m 192 #[.val (.long q0), .second, .val (.int p1), .val (.int p2), .val (.int p3), .val (.int j12_s0), .val (.int j26_s0), .val (.int j40_s0), .val (.int v45), .val (.int v53), .val (.int v60), .val (.ref b64), .val (.int v160), .unset, .unset] [(.int (93 : Int32)), (.int (v60 - (1 : Int32))), (.ref b64)])) t → P0 t := by
            intro t kt
            refine K32 t ?_
            show Steps p.tables e below (T27.setTop (mkF m 170 #[.val (.long q0), .second, .val (.int p1), .val (.int p2), .val (.int p3), .val (.int j12_s0), .val (.int j26_s0), .val (.int j40_s0), .val (.int v45), .val (.int v53), .val (.int v60), .val (.ref b64), .val (.int v160), .unset, .unset] [(.int j26_s0), (.int (v60 - (1 : Int32))), (.ref b64)])) t
            refine XS.ifNo X27.here hx rfl (hb hby at_170) rfl ((if0 _ _).trans (feq hc170).1) ?_
            show Steps p.tables e below (T27.setTop (mkF m 173 #[.val (.long q0), .second, .val (.int p1), .val (.int p2), .val (.int p3), .val (.int j12_s0), .val (.int j26_s0), .val (.int j40_s0), .val (.int v45), .val (.int v53), .val (.int v60), .val (.ref b64), .val (.int v160), .unset, .unset] [(.int (v60 - (1 : Int32))), (.ref b64)])) t
            refine XS.bipush X27.here hx rfl (hb hby at_173) ?_
            show Steps p.tables e below (T27.setTop (mkF m 175 #[.val (.long q0), .second, .val (.int p1), .val (.int p2), .val (.int p3), .val (.int j12_s0), .val (.int j26_s0), .val (.int j40_s0), .val (.int v45), .val (.int v53), .val (.int v60), .val (.ref b64), .val (.int v160), .unset, .unset] [(.int (93 : Int32)), (.int (v60 - (1 : Int32))), (.ref b64)])) t
            refine XS.goto X27.here hx rfl (pc0 := 175) (pc' := 192) rfl (hb hby at_175) (by decide) (by decide) ?_
            exact kt
          exact ⟨_, (if_neg hc170).symm, K37⟩
      obtain ⟨T39, h39, X39, e39, ⟨sl39, vv39, W39⟩, V39, st39⟩ := stBA X27 hx hZ e27 V27' (j := (v60 - (1 : Int32))) (x := j192_s0_1) (own_i1 hv45 hv53 hv60 hc150) (g := (mkF m 192 #[.val (.long q0), .second, .val (.int p1), .val (.int p2), .val (.int p3), .val (.int j12_s0), .val (.int j26_s0), .val (.int j40_s0), .val (.int v45), .val (.int v53), .val (.int v60), .val (.ref b64), .val (.int v160), .unset, .unset] [(.int j192_s0_1), (.int (v60 - (1 : Int32))), (.ref b64)])) rfl rfl (hb hby at_192)
      have Z39 : n0 ≤ h39.size := Nat.le_trans Z27 (Keep.of_wr W39).1
      have N39 := Fr.snoc X39 N27 g_b64
      obtain ⟨f192, hf192, V39'⟩ : ∃ f192 : Nat → Int32, f192 = (upd f146 ((v60 - (1 : Int32))).toNatClampNeg (nar .byte j192_s0_1)) ∧ IA Z h39 b64 .byte 8 f192 := ⟨_, rfl, V39⟩
      have K40 : ∀ t, Steps p.tables e below (T39.setTop (mkF m 193 #[.val (.long q0), .second, .val (.int p1), .val (.int p2), .val (.int p3), .val (.int j12_s0), .val (.int j26_s0), .val (.int j40_s0), .val (.int v45), .val (.int v53), .val (.int v60), .val (.ref b64), .val (.int v160), .unset, .unset] [])) t → P0 t := by
        intro t kt
        refine K38 t ?_
        show Steps p.tables e below (T27.setTop (mkF m 192 #[.val (.long q0), .second, .val (.int p1), .val (.int p2), .val (.int p3), .val (.int j12_s0), .val (.int j26_s0), .val (.int j40_s0), .val (.int v45), .val (.int v53), .val (.int v60), .val (.ref b64), .val (.int v160), .unset, .unset] [(.int j192_s0_1), (.int (v60 - (1 : Int32))), (.ref b64)])) t
        refine st39 _ ?_
        exact kt
      subst hv160
      subst hj192_s0_1
      subst hf192
      exact ⟨_, .val (.int (f146 ((v60 - (1 : Int32))).toNatClampNeg)), _, _, _, (if_neg hc150).symm, (One.val rfl), X39, e39, N39, Z39, V39', K40⟩
  have K50 : ∀ t, Steps p.tables e below (T42.setTop (mkF m 200 #[.val (.long q0), .second, .val (.int p1), .val (.int p2), .val (.int p3), .val (.int j12_s0), .val (.int j26_s0), .val (.int j40_s0), .val (.int v45), .val (.int v53), .val (.int v60), .val (.ref b64), .val (.int (jf193 (v45).toNatClampNeg)), .unset, .unset] [])) t → P0 t := by
    intro t kt
    refine K49 t ?_
    show Steps p.tables e below (T42.setTop (mkF m 193 #[.val (.long q0), .second, .val (.int p1), .val (.int p2), .val (.int p3), .val (.int j12_s0), .val (.int j26_s0), .val (.int j40_s0), .val (.int v45), .val (.int v53), .val (.int v60), .val (.ref b64), o193_12, .unset, .unset] [])) t
    refine XS.aload X44.here hx rfl (hb hby at_193) rfl rfl ?_
    show Steps p.tables e below (T42.setTop (mkF m 195 #[.val (.long q0), .second, .val (.int p1), .val (.int p2), .val (.int p3), .val (.int j12_s0), .val (.int j26_s0), .val (.int j40_s0), .val (.int v45), .val (.int v53), .val (.int v60), .val (.ref b64), o193_12, .unset, .unset] [(.ref b64)])) t
    refine XS.iload X44.here hx rfl (hb hby at_195) rfl ?_
    show Steps p.tables e below (T42.setTop (mkF m 197 #[.val (.long q0), .second, .val (.int p1), .val (.int p2), .val (.int p3), .val (.int j12_s0), .val (.int j26_s0), .val (.int j40_s0), .val (.int v45), .val (.int v53), .val (.int v60), .val (.ref b64), o193_12, .unset, .unset] [(.int v45), (.ref b64)])) t
    refine ldBA X44 hx hZ e45 F48 (j := v45) (own_i2 hv45) (g := (mkF m 197 #[.val (.long q0), .second, .val (.int p1), .val (.int p2), .val (.int p3), .val (.int j12_s0), .val (.int j26_s0), .val (.int j40_s0), .val (.int v45), .val (.int v53), .val (.int v60), .val (.ref b64), o193_12, .unset, .unset] [(.int v45), (.ref b64)])) rfl rfl (hb hby at_197) _ ?_
    show Steps p.tables e below (T42.setTop (mkF m 198 #[.val (.long q0), .second, .val (.int p1), .val (.int p2), .val (.int p3), .val (.int j12_s0), .val (.int j26_s0), .val (.int j40_s0), .val (.int v45), .val (.int v53), .val (.int v60), .val (.ref b64), o193_12, .unset, .unset] [(.int (jf193 (v45).toNatClampNeg))])) t
    refine XS.istore X44.here hx rfl (hb hby at_198) rfl (l' := #[.val (.long q0), .second, .val (.int p1), .val (.int p2), .val (.int p3), .val (.int j12_s0), .val (.int j26_s0), .val (.int j40_s0), .val (.int v45), .val (.int v53), .val (.int v60), .val (.ref b64), .val (.int (jf193 (v45).toNatClampNeg)), .unset, .unset]) (XS.store1 (o := o193_12) rfl hoo193_12 rfl) ?_
    exact kt
  obtain ⟨v198, hv198, K51⟩ : ∃ v198 : Int32, v198 = (jf193 (v45).toNatClampNeg) ∧ ∀ t, Steps p.tables e below (T42.setTop (mkF m 200 #[.val (.long q0), .second, .val (.int p1), .val (.int p2), .val (.int p3), .val (.int j12_s0), .val (.int j26_s0), .val (.int j40_s0), .val (.int v45), .val (.int v53), .val (.int v60), .val (.ref b64), .val (.int v198), .unset, .unset] [])) t → P0 t := ⟨_, rfl, K50⟩
  have K52 : ∀ t, Steps p.tables e below (T42.setTop (mkF m 206 #[.val (.long q0), .second, .val (.int p1), .val (.int p2), .val (.int p3), .val (.int j12_s0), .val (.int j26_s0), .val (.int j40_s0), .val (.int v45), .val (.int v53), .val (.int v60), .val (.ref b64), .val (.int v198), .unset, .unset] [(.int j12_s0), (.int v45), (.ref b64)])) t → P0 t := by
    intro t kt
    refine K51 t ?_
    show Steps p.tables e below (T42.setTop (mkF m 200 #[.val (.long q0), .second, .val (.int p1), .val (.int p2), .val (.int p3), .val (.int j12_s0), .val (.int j26_s0), .val (.int j40_s0), .val (.int v45), .val (.int v53), .val (.int v60), .val (.ref b64), .val (.int v198), .unset, .unset] [])) t
    refine XS.aload X44.here hx rfl (hb hby at_200) rfl rfl ?_
    show Steps p.tables e below (T42.setTop (mkF m 202 #[.val (.long q0), .second, .val (.int p1), .val (.int p2), .val (.int p3), .val (.int j12_s0), .val (.int j26_s0), .val (.int j40_s0), .val (.int v45), .val (.int v53), .val (.int v60), .val (.ref b64), .val (.int v198), .unset, .unset] [(.ref b64)])) t
    refine XS.iload X44.here hx rfl (hb hby at_202) rfl ?_
    show Steps p.tables e below (T42.setTop (mkF m 204 #[.val (.long q0), .second, .val (.int p1), .val (.int p2), .val (.int p3), .val (.int j12_s0), .val (.int j26_s0), .val (.int j40_s0), .val (.int v45), .val (.int v53), .val (.int v60), .val (.ref b64), .val (.int v198), .unset, .unset] [(.int v45), (.ref b64)])) t
    refine XS.iload X44.here hx rfl (hb hby at_204) rfl ?_
    exact kt
  obtain ⟨j228_s0_1, hj228_s0_1, K58⟩ : ∃ (j228_s0_1 : Int32), j228_s0_1 = (if j12_s0 = (0 : Int32) then (if v198 = (91 : Int32) then (92 : Int32) else v198) else (91 : Int32)) ∧ ∀ t, Steps p.tables e below (T42.setTop (mkF m 228 #[.val (.long q0), .second, .val (.int p1), .val (.int p2), .val (.int p3), .val (.int j12_s0), .val (.int j26_s0), .val (.int j40_s0), .val (.int v45), .val (.int v53), .val (.int v60), .val (.ref b64), .val (.int v198), .unset, .unset] [(.int j228_s0_1), (.int v45), (.ref b64)])) t → P0 t := by
    by_cases hc206 : j12_s0 = (0 : Int32)
    · have K53 : ∀ t, Steps p.tables e below (T42.setTop (mkF m 218 #[.val (.long q0), .second, .val (.int p1), .val (.int p2), .val (.int p3), .val (.int j12_s0), .val (.int j26_s0), .val (.int j40_s0), .val (.int v45), .val (.int v53), .val (.int v60), .val (.ref b64), .val (.int v198), .unset, .unset] [(.int (91 : Int32)), (.int v198), (.int v45), (.ref b64)])) t → P0 t := by
        intro t kt
        refine K52 t ?_
        show Steps p.tables e below (T42.setTop (mkF m 206 #[.val (.long q0), .second, .val (.int p1), .val (.int p2), .val (.int p3), .val (.int j12_s0), .val (.int j26_s0), .val (.int j40_s0), .val (.int v45), .val (.int v53), .val (.int v60), .val (.ref b64), .val (.int v198), .unset, .unset] [(.int j12_s0), (.int v45), (.ref b64)])) t
        refine XS.ifYes X44.here hx rfl (pc0 := 206) (pc' := 214) rfl (hb hby at_206) rfl ((if0 _ _).trans (teq hc206).1) (by decide) (by decide) ?_
        show Steps p.tables e below (T42.setTop (mkF m 214 #[.val (.long q0), .second, .val (.int p1), .val (.int p2), .val (.int p3), .val (.int j12_s0), .val (.int j26_s0), .val (.int j40_s0), .val (.int v45), .val (.int v53), .val (.int v60), .val (.ref b64), .val (.int v198), .unset, .unset] [(.int v45), (.ref b64)])) t
        refine XS.iload X44.here hx rfl (hb hby at_214) rfl ?_
        show Steps p.tables e below (T42.setTop (mkF m 216 #[.val (.long q0), .second, .val (.int p1), .val (.int p2), .val (.int p3), .val (.int j12_s0), .val (.int j26_s0), .val (.int j40_s0), .val (.int v45), .val (.int v53), .val (.int v60), .val (.ref b64), .val (.int v198), .unset, .unset] [(.int v198), (.int v45), (.ref b64)])) t
        refine XS.bipush X44.here hx rfl (hb hby at_216) ?_
        exact kt
      obtain ⟨j228_s0, hj228_s0, K56⟩ : ∃ (j228_s0 : Int32), j228_s0 = (if v198 = (91 : Int32) then (92 : Int32) else v198) ∧ ∀ t, Steps p.tables e below (T42.setTop (mkF m 228 #[.val (.long q0), .second, .val (.int p1), .val (.int p2), .val (.int p3), .val (.int j12_s0), .val (.int j26_s0), .val (.int j40_s0), .val (.int v45), .val (.int v53), .val (.int v60), .val (.ref b64), .val (.int v198), .unset, .unset] [(.int j228_s0), (.int v45), (.ref b64)])) t → P0 t := by
        by_cases hc218 : v198 = (91 : Int32)
        · have K54 : ∀ t, Steps p.tables e below (T42.setTop (mkF m 228 #[.val (.long q0), .second, .val (.int p1), .val (.int p2), .val (.int p3), .val (.int j12_s0), .val (.int j26_s0), .val (.int j40_s0), .val (.int v45), .val (.int v53), .val (.int v60), .val (.ref b64), .val (.int v198), .unset, .unset] [(.int (92 : Int32)), (.int v45), (.ref b64)])) t → P0 t := by
            intro t kt
            refine K53 t ?_
            show Steps p.tables e below (T42.setTop (mkF m 218 #[.val (.long q0), .second, .val (.int p1), .val (.int p2), .val (.int p3), .val (.int j12_s0), .val (.int j26_s0), .val (.int j40_s0), .val (.int v45), .val (.int v53), .val (.int v60), .val (.ref b64), .val (.int v198), .unset, .unset] [(.int (91 : Int32)), (.int v198), (.int v45), (.ref b64)])) t
            refine XS.icmpNo X44.here hx rfl (hb hby at_218) rfl (teq hc218).2 ?_
            show Steps p.tables e below (T42.setTop (mkF m 221 #[.val (.long q0), .second, .val (.int p1), .val (.int p2), .val (.int p3), .val (.int j12_s0), .val (.int j26_s0), .val (.int j40_s0), .val (.int v45), .val (.int v53), .val (.int v60), .val (.ref b64), .val (.int v198), .unset, .unset] [(.int v45), (.ref b64)])) t
            refine XS.bipush X44.here hx rfl (hb hby at_221) ?_
            show Steps p.tables e below (T42.setTop (mkF m 223 #[.val (.long q0), .second, .val (.int p1), .val (.int p2), .val (.int p3), .val (.int j12_s0), .val (.int j26_s0), .val (.int j40_s0), .val (.int v45), .val (.int v53), .val (.int v60), .val (.ref b64), .val (.int v198), .unset, .unset] [(.int (92 : Int32)), (.int v45), (.ref b64)])) t
            refine XS.goto X44.here hx rfl (pc0 := 223) (pc' := 228) rfl (hb hby at_223) (by decide) (by decide) ?_
            exact kt
          exact ⟨_, (if_pos hc218).symm, K54⟩
        · have K55 : ∀ t, Steps p.tables e below (T42.setTop (mkF m 228 #[.val (.long q0), .second, .val (.int p1), .val (.int p2), .val (.int p3), .val (.int j12_s0), .val (.int j26_s0), .val (.int j40_s0), .val (.int v45), .val (.int v53), .val (.int v60), .val (.ref b64), .val (.int v198), .unset, .unset] [(.int v198), (.int v45), (.ref b64)])) t → P0 t := by
            intro t kt
            refine K53 t ?_
            show Steps p.tables e below (T42.setTop (mkF m 218 #[.val (.long q0), .second, .val (.int p1), .val (.int p2), .val (.int p3), .val (.int j12_s0), .val (.int j26_s0), .val (.int j40_s0), .val (.int v45), .val (.int v53), .val (.int v60), .val (.ref b64), .val (.int v198), .unset, .unset] [(.int (91 : Int32)), (.int v198), (.int v45), (.ref b64)])) t
            refine XS.icmpYes X44.here hx rfl (pc0 := 218) (pc' := 226) rfl (hb hby at_218) rfl (feq hc218).2 (by decide) (by decide) ?_
            show Steps p.tables e below (T42.setTop (mkF m 226 #[.val (.long q0), .second, .val (.int p1), .val (.int p2), .val (.int p3), .val (.int j12_s0), .val (.int j26_s0), .val (.int j40_s0), .val (.int v45), .val (.int v53), .val (.int v60), .val (.ref b64), .val (.int v198), .unset, .unset] [(.int v45), (.ref b64)])) t
            refine XS.iload X44.here hx rfl (hb hby at_226) rfl ?_
            exact kt
          exact ⟨_, (if_neg hc218).symm, K55⟩
      subst hj228_s0
      exact ⟨_, (if_pos hc206).symm, K56⟩
    · have K57 : ∀ t, Steps p.tables e below (T42.setTop (mkF m 228 #[.val (.long q0), .second, .val (.int p1), .val (.int p2), .val (.int p3), .val (.int j12_s0), .val (.int j26_s0), .val (.int j40_s0), .val (.int v45), .val (.int v53), .val (.int v60), .val (.ref b64), .val (.int v198), .unset, .unset] [(.int (91 : Int32)), (.int v45), (.ref b64)])) t → P0 t := by
        intro t kt
        refine K52 t ?_
        show Steps p.tables e below (T42.setTop (mkF m 206 #[.val (.long q0), .second, .val (.int p1), .val (.int p2), .val (.int p3), .val (.int j12_s0), .val (.int j26_s0), .val (.int j40_s0), .val (.int v45), .val (.int v53), .val (.int v60), .val (.ref b64), .val (.int v198), .unset, .unset] [(.int j12_s0), (.int v45), (.ref b64)])) t
        refine XS.ifNo X44.here hx rfl (hb hby at_206) rfl ((if0 _ _).trans (feq hc206).1) ?_
        show Steps p.tables e below (T42.setTop (mkF m 209 #[.val (.long q0), .second, .val (.int p1), .val (.int p2), .val (.int p3), .val (.int j12_s0), .val (.int j26_s0), .val (.int j40_s0), .val (.int v45), .val (.int v53), .val (.int v60), .val (.ref b64), .val (.int v198), .unset, .unset] [(.int v45), (.ref b64)])) t
        refine XS.bipush X44.here hx rfl (hb hby at_209) ?_
        show Steps p.tables e below (T42.setTop (mkF m 211 #[.val (.long q0), .second, .val (.int p1), .val (.int p2), .val (.int p3), .val (.int j12_s0), .val (.int j26_s0), .val (.int j40_s0), .val (.int v45), .val (.int v53), .val (.int v60), .val (.ref b64), .val (.int v198), .unset, .unset] [(.int (91 : Int32)), (.int v45), (.ref b64)])) t
        refine XS.goto X44.here hx rfl (pc0 := 211) (pc' := 228) rfl (hb hby at_211) (by decide) (by decide) ?_
        exact kt
      exact ⟨_, (if_neg hc206).symm, K57⟩
  obtain ⟨T59, h59, X59, e59, ⟨sl59, vv59, W59⟩, V59, st59⟩ := stBA X44 hx hZ e45 F48 (j := v45) (x := j228_s0_1) (own_i2 hv45) (g := (mkF m 228 #[.val (.long q0), .second, .val (.int p1), .val (.int p2), .val (.int p3), .val (.int j12_s0), .val (.int j26_s0), .val (.int j40_s0), .val (.int v45), .val (.int v53), .val (.int v60), .val (.ref b64), .val (.int v198), .unset, .unset] [(.int j228_s0_1), (.int v45), (.ref b64)])) rfl rfl (hb hby at_228)
  have Z59 : n0 ≤ h59.size := Nat.le_trans Z47 (Keep.of_wr W59).1
  have N59 := Fr.snoc X59 N46 g_b64
  obtain ⟨f228, hf228, V59'⟩ : ∃ f228 : Nat → Int32, f228 = (upd jf193 (v45).toNatClampNeg (nar .byte j228_s0_1)) ∧ IA Z h59 b64 .byte 8 f228 := ⟨_, rfl, V59⟩
  have K60 : ∀ t, Steps p.tables e below (T59.setTop (mkF m 231 #[.val (.long q0), .second, .val (.int p1), .val (.int p2), .val (.int p3), .val (.int j12_s0), .val (.int j26_s0), .val (.int j40_s0), .val (.int v45), .val (.int v53), .val (.int v60), .val (.ref b64), .val (.int v198), .unset, .unset] [(.int j40_s0)])) t → P0 t := by
    intro t kt
    refine K58 t ?_
    show Steps p.tables e below (T42.setTop (mkF m 228 #[.val (.long q0), .second, .val (.int p1), .val (.int p2), .val (.int p3), .val (.int j12_s0), .val (.int j26_s0), .val (.int j40_s0), .val (.int v45), .val (.int v53), .val (.int v60), .val (.ref b64), .val (.int v198), .unset, .unset] [(.int j228_s0_1), (.int v45), (.ref b64)])) t
    refine st59 _ ?_
    show Steps p.tables e below (T59.setTop (mkF m 229 #[.val (.long q0), .second, .val (.int p1), .val (.int p2), .val (.int p3), .val (.int j12_s0), .val (.int j26_s0), .val (.int j40_s0), .val (.int v45), .val (.int v53), .val (.int v60), .val (.ref b64), .val (.int v198), .unset, .unset] [])) t
    refine XS.iload X59.here hx rfl (hb hby at_229) rfl ?_
    exact kt
  obtain ⟨j255_s0_3, hj255_s0_3, K72⟩ : ∃ (j255_s0_3 : Int32), j255_s0_3 = (if j40_s0 = (0 : Int32) then (if v53 < (2 : Int32) then (0 : Int32) else (if j12_s0 = (0 : Int32) then (0 : Int32) else (if j26_s0 = (0 : Int32) then (0 : Int32) else (1 : Int32)))) else (0 : Int32)) ∧ ∀ t, Steps p.tables e below (T59.setTop (mkF m 255 #[.val (.long q0), .second, .val (.int p1), .val (.int p2), .val (.int p3), .val (.int j12_s0), .val (.int j26_s0), .val (.int j40_s0), .val (.int v45), .val (.int v53), .val (.int v60), .val (.ref b64), .val (.int v198), .unset, .unset] [(.int j255_s0_3)])) t → P0 t := by
    by_cases hc231 : j40_s0 = (0 : Int32)
    · have K61 : ∀ t, Steps p.tables e below (T59.setTop (mkF m 237 #[.val (.long q0), .second, .val (.int p1), .val (.int p2), .val (.int p3), .val (.int j12_s0), .val (.int j26_s0), .val (.int j40_s0), .val (.int v45), .val (.int v53), .val (.int v60), .val (.ref b64), .val (.int v198), .unset, .unset] [(.int (2 : Int32)), (.int v53)])) t → P0 t := by
        intro t kt
        refine K60 t ?_
        show Steps p.tables e below (T59.setTop (mkF m 231 #[.val (.long q0), .second, .val (.int p1), .val (.int p2), .val (.int p3), .val (.int j12_s0), .val (.int j26_s0), .val (.int j40_s0), .val (.int v45), .val (.int v53), .val (.int v60), .val (.ref b64), .val (.int v198), .unset, .unset] [(.int j40_s0)])) t
        refine XS.ifNo X59.here hx rfl (hb hby at_231) rfl ((if0 _ _).trans (teq hc231).2) ?_
        show Steps p.tables e below (T59.setTop (mkF m 234 #[.val (.long q0), .second, .val (.int p1), .val (.int p2), .val (.int p3), .val (.int j12_s0), .val (.int j26_s0), .val (.int j40_s0), .val (.int v45), .val (.int v53), .val (.int v60), .val (.ref b64), .val (.int v198), .unset, .unset] [])) t
        refine XS.iload X59.here hx rfl (hb hby at_234) rfl ?_
        show Steps p.tables e below (T59.setTop (mkF m 236 #[.val (.long q0), .second, .val (.int p1), .val (.int p2), .val (.int p3), .val (.int j12_s0), .val (.int j26_s0), .val (.int j40_s0), .val (.int v45), .val (.int v53), .val (.int v60), .val (.ref b64), .val (.int v198), .unset, .unset] [(.int v53)])) t
        refine XS.iconst X59.here hx rfl (hb hby at_236) ?_
        exact kt
      obtain ⟨j255_s0_2, hj255_s0_2, K70⟩ : ∃ (j255_s0_2 : Int32), j255_s0_2 = (if v53 < (2 : Int32) then (0 : Int32) else (if j12_s0 = (0 : Int32) then (0 : Int32) else (if j26_s0 = (0 : Int32) then (0 : Int32) else (1 : Int32)))) ∧ ∀ t, Steps p.tables e below (T59.setTop (mkF m 255 #[.val (.long q0), .second, .val (.int p1), .val (.int p2), .val (.int p3), .val (.int j12_s0), .val (.int j26_s0), .val (.int j40_s0), .val (.int v45), .val (.int v53), .val (.int v60), .val (.ref b64), .val (.int v198), .unset, .unset] [(.int j255_s0_2)])) t → P0 t := by
        by_cases hc237 : v53 < (2 : Int32)
        · have K62 : ∀ t, Steps p.tables e below (T59.setTop (mkF m 255 #[.val (.long q0), .second, .val (.int p1), .val (.int p2), .val (.int p3), .val (.int j12_s0), .val (.int j26_s0), .val (.int j40_s0), .val (.int v45), .val (.int v53), .val (.int v60), .val (.ref b64), .val (.int v198), .unset, .unset] [(.int (0 : Int32))])) t → P0 t := by
            intro t kt
            refine K61 t ?_
            show Steps p.tables e below (T59.setTop (mkF m 237 #[.val (.long q0), .second, .val (.int p1), .val (.int p2), .val (.int p3), .val (.int j12_s0), .val (.int j26_s0), .val (.int j40_s0), .val (.int v45), .val (.int v53), .val (.int v60), .val (.ref b64), .val (.int v198), .unset, .unset] [(.int (2 : Int32)), (.int v53)])) t
            refine XS.icmpYes X59.here hx rfl (pc0 := 237) (pc' := 254) rfl (hb hby at_237) rfl (tlt hc237).1 (by decide) (by decide) ?_
            show Steps p.tables e below (T59.setTop (mkF m 254 #[.val (.long q0), .second, .val (.int p1), .val (.int p2), .val (.int p3), .val (.int j12_s0), .val (.int j26_s0), .val (.int j40_s0), .val (.int v45), .val (.int v53), .val (.int v60), .val (.ref b64), .val (.int v198), .unset, .unset] [])) t
            refine XS.iconst X59.here hx rfl (hb hby at_254) ?_
            exact kt
          exact ⟨_, (if_pos hc237).symm, K62⟩
        · have K63 : ∀ t, Steps p.tables e below (T59.setTop (mkF m 242 #[.val (.long q0), .second, .val (.int p1), .val (.int p2), .val (.int p3), .val (.int j12_s0), .val (.int j26_s0), .val (.int j40_s0), .val (.int v45), .val (.int v53), .val (.int v60), .val (.ref b64), .val (.int v198), .unset, .unset] [(.int j12_s0)])) t → P0 t := by
            intro t kt
            refine K61 t ?_
            show Steps p.tables e below (T59.setTop (mkF m 237 #[.val (.long q0), .second, .val (.int p1), .val (.int p2), .val (.int p3), .val (.int j12_s0), .val (.int j26_s0), .val (.int j40_s0), .val (.int v45), .val (.int v53), .val (.int v60), .val (.ref b64), .val (.int v198), .unset, .unset] [(.int (2 : Int32)), (.int v53)])) t
            refine XS.icmpNo X59.here hx rfl (hb hby at_237) rfl (flt hc237).1 ?_
            show Steps p.tables e below (T59.setTop (mkF m 240 #[.val (.long q0), .second, .val (.int p1), .val (.int p2), .val (.int p3), .val (.int j12_s0), .val (.int j26_s0), .val (.int j40_s0), .val (.int v45), .val (.int v53), .val (.int v60), .val (.ref b64), .val (.int v198), .unset, .unset] [])) t
            refine XS.iload X59.here hx rfl (hb hby at_240) rfl ?_
            exact kt
          obtain ⟨j255_s0_1, hj255_s0_1, K69⟩ : ∃ (j255_s0_1 : Int32), j255_s0_1 = (if j12_s0 = (0 : Int32) then (0 : Int32) else (if j26_s0 = (0 : Int32) then (0 : Int32) else (1 : Int32))) ∧ ∀ t, Steps p.tables e below (T59.setTop (mkF m 255 #[.val (.long q0), .second, .val (.int p1), .val (.int p2), .val (.int p3), .val (.int j12_s0), .val (.int j26_s0), .val (.int j40_s0), .val (.int v45), .val (.int v53), .val (.int v60), .val (.ref b64), .val (.int v198), .unset, .unset] [(.int j255_s0_1)])) t → P0 t := by
            by_cases hc242 : j12_s0 = (0 : Int32)
            · have K64 : ∀ t, Steps p.tables e below (T59.setTop (mkF m 255 #[.val (.long q0), .second, .val (.int p1), .val (.int p2), .val (.int p3), .val (.int j12_s0), .val (.int j26_s0), .val (.int j40_s0), .val (.int v45), .val (.int v53), .val (.int v60), .val (.ref b64), .val (.int v198), .unset, .unset] [(.int (0 : Int32))])) t → P0 t := by
                intro t kt
                refine K63 t ?_
                show Steps p.tables e below (T59.setTop (mkF m 242 #[.val (.long q0), .second, .val (.int p1), .val (.int p2), .val (.int p3), .val (.int j12_s0), .val (.int j26_s0), .val (.int j40_s0), .val (.int v45), .val (.int v53), .val (.int v60), .val (.ref b64), .val (.int v198), .unset, .unset] [(.int j12_s0)])) t
                refine XS.ifYes X59.here hx rfl (pc0 := 242) (pc' := 254) rfl (hb hby at_242) rfl ((if0 _ _).trans (teq hc242).1) (by decide) (by decide) ?_
                show Steps p.tables e below (T59.setTop (mkF m 254 #[.val (.long q0), .second, .val (.int p1), .val (.int p2), .val (.int p3), .val (.int j12_s0), .val (.int j26_s0), .val (.int j40_s0), .val (.int v45), .val (.int v53), .val (.int v60), .val (.ref b64), .val (.int v198), .unset, .unset] [])) t
                refine XS.iconst X59.here hx rfl (hb hby at_254) ?_
                exact kt
              exact ⟨_, (if_pos hc242).symm, K64⟩
            · have K65 : ∀ t, Steps p.tables e below (T59.setTop (mkF m 247 #[.val (.long q0), .second, .val (.int p1), .val (.int p2), .val (.int p3), .val (.int j12_s0), .val (.int j26_s0), .val (.int j40_s0), .val (.int v45), .val (.int v53), .val (.int v60), .val (.ref b64), .val (.int v198), .unset, .unset] [(.int j26_s0)])) t → P0 t := by
                intro t kt
                refine K63 t ?_
                show Steps p.tables e below (T59.setTop (mkF m 242 #[.val (.long q0), .second, .val (.int p1), .val (.int p2), .val (.int p3), .val (.int j12_s0), .val (.int j26_s0), .val (.int j40_s0), .val (.int v45), .val (.int v53), .val (.int v60), .val (.ref b64), .val (.int v198), .unset, .unset] [(.int j12_s0)])) t
                refine XS.ifNo X59.here hx rfl (hb hby at_242) rfl ((if0 _ _).trans (feq hc242).1) ?_
                show Steps p.tables e below (T59.setTop (mkF m 245 #[.val (.long q0), .second, .val (.int p1), .val (.int p2), .val (.int p3), .val (.int j12_s0), .val (.int j26_s0), .val (.int j40_s0), .val (.int v45), .val (.int v53), .val (.int v60), .val (.ref b64), .val (.int v198), .unset, .unset] [])) t
                refine XS.iload X59.here hx rfl (hb hby at_245) rfl ?_
                exact kt
              obtain ⟨j255_s0, hj255_s0, K68⟩ : ∃ (j255_s0 : Int32), j255_s0 = (if j26_s0 = (0 : Int32) then (0 : Int32) else (1 : Int32)) ∧ ∀ t, Steps p.tables e below (T59.setTop (mkF m 255 #[.val (.long q0), .second, .val (.int p1), .val (.int p2), .val (.int p3), .val (.int j12_s0), .val (.int j26_s0), .val (.int j40_s0), .val (.int v45), .val (.int v53), .val (.int v60), .val (.ref b64), .val (.int v198), .unset, .unset] [(.int j255_s0)])) t → P0 t := by
                by_cases hc247 : j26_s0 = (0 : Int32)
                · have K66 : ∀ t, Steps p.tables e below (T59.setTop (mkF m 255 #[.val (.long q0), .second, .val (.int p1), .val (.int p2), .val (.int p3), .val (.int j12_s0), .val (.int j26_s0), .val (.int j40_s0), .val (.int v45), .val (.int v53), .val (.int v60), .val (.ref b64), .val (.int v198), .unset, .unset] [(.int (0 : Int32))])) t → P0 t := by
                    intro t kt
                    refine K65 t ?_
                    show Steps p.tables e below (T59.setTop (mkF m 247 #[.val (.long q0), .second, .val (.int p1), .val (.int p2), .val (.int p3), .val (.int j12_s0), .val (.int j26_s0), .val (.int j40_s0), .val (.int v45), .val (.int v53), .val (.int v60), .val (.ref b64), .val (.int v198), .unset, .unset] [(.int j26_s0)])) t
                    refine XS.ifYes X59.here hx rfl (pc0 := 247) (pc' := 254) rfl (hb hby at_247) rfl ((if0 _ _).trans (teq hc247).1) (by decide) (by decide) ?_
                    show Steps p.tables e below (T59.setTop (mkF m 254 #[.val (.long q0), .second, .val (.int p1), .val (.int p2), .val (.int p3), .val (.int j12_s0), .val (.int j26_s0), .val (.int j40_s0), .val (.int v45), .val (.int v53), .val (.int v60), .val (.ref b64), .val (.int v198), .unset, .unset] [])) t
                    refine XS.iconst X59.here hx rfl (hb hby at_254) ?_
                    exact kt
                  exact ⟨_, (if_pos hc247).symm, K66⟩
                · have K67 : ∀ t, Steps p.tables e below (T59.setTop (mkF m 255 #[.val (.long q0), .second, .val (.int p1), .val (.int p2), .val (.int p3), .val (.int j12_s0), .val (.int j26_s0), .val (.int j40_s0), .val (.int v45), .val (.int v53), .val (.int v60), .val (.ref b64), .val (.int v198), .unset, .unset] [(.int (1 : Int32))])) t → P0 t := by
                    intro t kt
                    refine K65 t ?_
                    show Steps p.tables e below (T59.setTop (mkF m 247 #[.val (.long q0), .second, .val (.int p1), .val (.int p2), .val (.int p3), .val (.int j12_s0), .val (.int j26_s0), .val (.int j40_s0), .val (.int v45), .val (.int v53), .val (.int v60), .val (.ref b64), .val (.int v198), .unset, .unset] [(.int j26_s0)])) t
                    refine XS.ifNo X59.here hx rfl (hb hby at_247) rfl ((if0 _ _).trans (feq hc247).1) ?_
                    show Steps p.tables e below (T59.setTop (mkF m 250 #[.val (.long q0), .second, .val (.int p1), .val (.int p2), .val (.int p3), .val (.int j12_s0), .val (.int j26_s0), .val (.int j40_s0), .val (.int v45), .val (.int v53), .val (.int v60), .val (.ref b64), .val (.int v198), .unset, .unset] [])) t
                    refine XS.iconst X59.here hx rfl (hb hby at_250) ?_
                    show Steps p.tables e below (T59.setTop (mkF m 251 #[.val (.long q0), .second, .val (.int p1), .val (.int p2), .val (.int p3), .val (.int j12_s0), .val (.int j26_s0), .val (.int j40_s0), .val (.int v45), .val (.int v53), .val (.int v60), .val (.ref b64), .val (.int v198), .unset, .unset] [(.int (1 : Int32))])) t
                    refine XS.goto X59.here hx rfl (pc0 := 251) (pc' := 255) rfl (hb hby at_251) (by decide) (by decide) ?_
                    exact kt
                  exact ⟨_, (if_neg hc247).symm, K67⟩
              subst hj255_s0
              exact ⟨_, (if_neg hc242).symm, K68⟩
          subst hj255_s0_1
          exact ⟨_, (if_neg hc237).symm, K69⟩
      subst hj255_s0_2
      exact ⟨_, (if_pos hc231).symm, K70⟩
    · have K71 : ∀ t, Steps p.tables e below (T59.setTop (mkF m 255 #[.val (.long q0), .second, .val (.int p1), .val (.int p2), .val (.int p3), .val (.int j12_s0), .val (.int j26_s0), .val (.int j40_s0), .val (.int v45), .val (.int v53), .val (.int v60), .val (.ref b64), .val (.int v198), .unset, .unset] [(.int (0 : Int32))])) t → P0 t := by
        intro t kt
        refine K60 t ?_
        show Steps p.tables e below (T59.setTop (mkF m 231 #[.val (.long q0), .second, .val (.int p1), .val (.int p2), .val (.int p3), .val (.int j12_s0), .val (.int j26_s0), .val (.int j40_s0), .val (.int v45), .val (.int v53), .val (.int v60), .val (.ref b64), .val (.int v198), .unset, .unset] [(.int j40_s0)])) t
        refine XS.ifYes X59.here hx rfl (pc0 := 231) (pc' := 254) rfl (hb hby at_231) rfl ((if0 _ _).trans (feq hc231).2) (by decide) (by decide) ?_
        show Steps p.tables e below (T59.setTop (mkF m 254 #[.val (.long q0), .second, .val (.int p1), .val (.int p2), .val (.int p3), .val (.int j12_s0), .val (.int j26_s0), .val (.int j40_s0), .val (.int v45), .val (.int v53), .val (.int v60), .val (.ref b64), .val (.int v198), .unset, .unset] [])) t
        refine XS.iconst X59.here hx rfl (hb hby at_254) ?_
        exact kt
      exact ⟨_, (if_neg hc231).symm, K71⟩
  have K73 : ∀ t, Steps p.tables e below (T59.setTop (mkF m 259 #[.val (.long q0), .second, .val (.int p1), .val (.int p2), .val (.int p3), .val (.int j12_s0), .val (.int j26_s0), .val (.int j40_s0), .val (.int v45), .val (.int v53), .val (.int v60), .val (.ref b64), .val (.int v198), .val (.int j255_s0_3), .unset] [(.int j40_s0)])) t → P0 t := by
    intro t kt
    refine K72 t ?_
    show Steps p.tables e below (T59.setTop (mkF m 255 #[.val (.long q0), .second, .val (.int p1), .val (.int p2), .val (.int p3), .val (.int j12_s0), .val (.int j26_s0), .val (.int j40_s0), .val (.int v45), .val (.int v53), .val (.int v60), .val (.ref b64), .val (.int v198), .unset, .unset] [(.int j255_s0_3)])) t
    refine XS.istore X59.here hx rfl (hb hby at_255) rfl (l' := #[.val (.long q0), .second, .val (.int p1), .val (.int p2), .val (.int p3), .val (.int j12_s0), .val (.int j26_s0), .val (.int j40_s0), .val (.int v45), .val (.int v53), .val (.int v60), .val (.ref b64), .val (.int v198), .val (.int j255_s0_3), .unset]) rfl ?_
    show Steps p.tables e below (T59.setTop (mkF m 257 #[.val (.long q0), .second, .val (.int p1), .val (.int p2), .val (.int p3), .val (.int j12_s0), .val (.int j26_s0), .val (.int j40_s0), .val (.int v45), .val (.int v53), .val (.int v60), .val (.ref b64), .val (.int v198), .val (.int j255_s0_3), .unset] [])) t
    refine XS.iload X59.here hx rfl (hb hby at_257) rfl ?_
    exact kt
  obtain ⟨j283_s0, T78, lc79, hj283_s0, X80, e81, N82, K83⟩ : ∃ (j283_s0 : Int32) (T78 : State) (lc79 : List Loc), j283_s0 = (if j40_s0 = (0 : Int32) then (fInb v45 v60 f228) else (fInb v60 v45 f228)) ∧ Stand p l e room_1 s m #[(.long q0), (.int p1), (.int p2), (.int p3)] below meth c T78 lc79 1 8 ∧ T78.heap = h59 ∧ Fr n0 lc79 ∧ ∀ t, Steps p.tables e below (T78.setTop (mkF m 283 #[.val (.long q0), .second, .val (.int p1), .val (.int p2), .val (.int p3), .val (.int j12_s0), .val (.int j26_s0), .val (.int j40_s0), .val (.int v45), .val (.int v53), .val (.int v60), .val (.ref b64), .val (.int v198), .val (.int j255_s0_3), .unset] [(.int j283_s0)])) t → P0 t := by
    by_cases hc259 : j40_s0 = (0 : Int32)
    · obtain ⟨_, _, ⟨T74, L74, k74, n74⟩, -, X74, ⟨Lc74, hQ74, l74, y74, z74⟩, st74⟩ := Jvm.LawKit.callS X59 hx (y := (⟨"com/example/trimhash/trimhash/Ipv6Address", "isInBrackets", "([BII)Z"⟩ : MethodName)) hown (mvT hZ (hw _ (List.mem_of_getElem? (i := 2) rfl))) (mvT hZ (hw _ (List.mem_of_getElem? (i := 3) rfl))) (mvT hZ (hw _ (List.mem_of_getElem? (i := 4) rfl))) (mvT hZ (hw _ (List.mem_of_getElem? (i := 5) rfl))) (by decide) (backOf (W := 0) (rm_inb l Z a0 hw [] b64 v45 v60 f228 h59 n0 Z59 V59' (by first | exact own_c1 hv45 hv53 hv60 | exact own_c1' hv45 hv53 hv60) (by first | exact own_c2 hv45 hv53 hv60 | exact own_c2' hv45 hv53 hv60)) hZ (hw _ (List.mem_of_getElem? (i := 5) rfl)) (hw _ (List.mem_of_getElem? (i := 4) rfl)) (by decide) (by decide)) (g := (mkF m 280 #[.val (.long q0), .second, .val (.int p1), .val (.int p2), .val (.int p3), .val (.int j12_s0), .val (.int j26_s0), .val (.int j40_s0), .val (.int v45), .val (.int v53), .val (.int v60), .val (.ref b64), .val (.int v198), .val (.int j255_s0_3), .unset] [(.int v60), (.int v45), (.ref b64)])) rfl (by rw [hml]; rfl) (argsL := [(.ref b64), (.int v45), (.int v60)]) (rest := []) (lenOf law_pd0 rfl) rfl (by show 2 * 0 + _ ≤ _; exact Nat.le_of_eq rfl) (hb hby at_280) (fun _ _ => ⟨rfl, e59, (by decide : 1 + 0 ≤ _), (by decide : 8 + 0 ≤ _)⟩)
      dsimp only [Pt.U, Pt.locs, Pt.cells, Pt.slots] at X74 l74 y74 z74 st74 hQ74
      subst l74 y74 z74
      obtain ⟨rfl, N74q, e74⟩ := hQ74
      have N74 := Fr.app N59 N74q
      have K75 : ∀ t, Steps p.tables e below (T74.setTop (mkF m 283 #[.val (.long q0), .second, .val (.int p1), .val (.int p2), .val (.int p3), .val (.int j12_s0), .val (.int j26_s0), .val (.int j40_s0), .val (.int v45), .val (.int v53), .val (.int v60), .val (.ref b64), .val (.int v198), .val (.int j255_s0_3), .unset] [(.int (fInb v45 v60 f228))])) t → P0 t := by
        intro t kt
        refine K73 t ?_
        show Steps p.tables e below (T59.setTop (mkF m 259 #[.val (.long q0), .second, .val (.int p1), .val (.int p2), .val (.int p3), .val (.int j12_s0), .val (.int j26_s0), .val (.int j40_s0), .val (.int v45), .val (.int v53), .val (.int v60), .val (.ref b64), .val (.int v198), .val (.int j255_s0_3), .unset] [(.int j40_s0)])) t
        refine XS.ifYes X59.here hx rfl (pc0 := 259) (pc' := 274) rfl (hb hby at_259) rfl ((if0 _ _).trans (teq hc259).1) (by decide) (by decide) ?_
        show Steps p.tables e below (T59.setTop (mkF m 274 #[.val (.long q0), .second, .val (.int p1), .val (.int p2), .val (.int p3), .val (.int j12_s0), .val (.int j26_s0), .val (.int j40_s0), .val (.int v45), .val (.int v53), .val (.int v60), .val (.ref b64), .val (.int v198), .val (.int j255_s0_3), .unset] [])) t
        refine XS.aload X59.here hx rfl (hb hby at_274) rfl rfl ?_
        show Steps p.tables e below (T59.setTop (mkF m 276 #[.val (.long q0), .second, .val (.int p1), .val (.int p2), .val (.int p3), .val (.int j12_s0), .val (.int j26_s0), .val (.int j40_s0), .val (.int v45), .val (.int v53), .val (.int v60), .val (.ref b64), .val (.int v198), .val (.int j255_s0_3), .unset] [(.ref b64)])) t
        refine XS.iload X59.here hx rfl (hb hby at_276) rfl ?_
        show Steps p.tables e below (T59.setTop (mkF m 278 #[.val (.long q0), .second, .val (.int p1), .val (.int p2), .val (.int p3), .val (.int j12_s0), .val (.int j26_s0), .val (.int j40_s0), .val (.int v45), .val (.int v53), .val (.int v60), .val (.ref b64), .val (.int v198), .val (.int j255_s0_3), .unset] [(.int v45), (.ref b64)])) t
        refine XS.iload X59.here hx rfl (hb hby at_278) rfl ?_
        show Steps p.tables e below (T59.setTop (mkF m 280 #[.val (.long q0), .second, .val (.int p1), .val (.int p2), .val (.int p3), .val (.int j12_s0), .val (.int j26_s0), .val (.int j40_s0), .val (.int v45), .val (.int v53), .val (.int v60), .val (.ref b64), .val (.int v198), .val (.int j255_s0_3), .unset] [(.int v60), (.int v45), (.ref b64)])) t
        refine st74 _ ?_
        exact kt
      exact ⟨_, _, _, (if_pos hc259).symm, X74, e74, N74, K75⟩
    · obtain ⟨_, _, ⟨T76, L76, k76, n76⟩, -, X76, ⟨Lc76, hQ76, l76, y76, z76⟩, st76⟩ := Jvm.LawKit.callS X59 hx (y := (⟨"com/example/trimhash/trimhash/Ipv6Address", "isInBrackets", "([BII)Z"⟩ : MethodName)) hown (mvT hZ (hw _ (List.mem_of_getElem? (i := 2) rfl))) (mvT hZ (hw _ (List.mem_of_getElem? (i := 3) rfl))) (mvT hZ (hw _ (List.mem_of_getElem? (i := 4) rfl))) (mvT hZ (hw _ (List.mem_of_getElem? (i := 5) rfl))) (by decide) (backOf (W := 0) (rm_inb l Z a0 hw [] b64 v60 v45 f228 h59 n0 Z59 V59' (by first | exact own_c1 hv45 hv53 hv60 | exact own_c1' hv45 hv53 hv60) (by first | exact own_c2 hv45 hv53 hv60 | exact own_c2' hv45 hv53 hv60)) hZ (hw _ (List.mem_of_getElem? (i := 5) rfl)) (hw _ (List.mem_of_getElem? (i := 4) rfl)) (by decide) (by decide)) (g := (mkF m 268 #[.val (.long q0), .second, .val (.int p1), .val (.int p2), .val (.int p3), .val (.int j12_s0), .val (.int j26_s0), .val (.int j40_s0), .val (.int v45), .val (.int v53), .val (.int v60), .val (.ref b64), .val (.int v198), .val (.int j255_s0_3), .unset] [(.int v45), (.int v60), (.ref b64)])) rfl (by rw [hml]; rfl) (argsL := [(.ref b64), (.int v60), (.int v45)]) (rest := []) (lenOf law_pd0 rfl) rfl (by show 2 * 0 + _ ≤ _; exact Nat.le_of_eq rfl) (hb hby at_268) (fun _ _ => ⟨rfl, e59, (by decide : 1 + 0 ≤ _), (by decide : 8 + 0 ≤ _)⟩)
      dsimp only [Pt.U, Pt.locs, Pt.cells, Pt.slots] at X76 l76 y76 z76 st76 hQ76
      subst l76 y76 z76
      obtain ⟨rfl, N76q, e76⟩ := hQ76
      have N76 := Fr.app N59 N76q
      have K77 : ∀ t, Steps p.tables e below (T76.setTop (mkF m 283 #[.val (.long q0), .second, .val (.int p1), .val (.int p2), .val (.int p3), .val (.int j12_s0), .val (.int j26_s0), .val (.int j40_s0), .val (.int v45), .val (.int v53), .val (.int v60), .val (.ref b64), .val (.int v198), .val (.int j255_s0_3), .unset] [(.int (fInb v60 v45 f228))])) t → P0 t := by
        intro t kt
        refine K73 t ?_
        show Steps p.tables e below (T59.setTop (mkF m 259 #[.val (.long q0), .second, .val (.int p1), .val (.int p2), .val (.int p3), .val (.int j12_s0), .val (.int j26_s0), .val (.int j40_s0), .val (.int v45), .val (.int v53), .val (.int v60), .val (.ref b64), .val (.int v198), .val (.int j255_s0_3), .unset] [(.int j40_s0)])) t
        refine XS.ifNo X59.here hx rfl (hb hby at_259) rfl ((if0 _ _).trans (feq hc259).1) ?_
        show Steps p.tables e below (T59.setTop (mkF m 262 #[.val (.long q0), .second, .val (.int p1), .val (.int p2), .val (.int p3), .val (.int j12_s0), .val (.int j26_s0), .val (.int j40_s0), .val (.int v45), .val (.int v53), .val (.int v60), .val (.ref b64), .val (.int v198), .val (.int j255_s0_3), .unset] [])) t
        refine XS.aload X59.here hx rfl (hb hby at_262) rfl rfl ?_
        show Steps p.tables e below (T59.setTop (mkF m 264 #[.val (.long q0), .second, .val (.int p1), .val (.int p2), .val (.int p3), .val (.int j12_s0), .val (.int j26_s0), .val (.int j40_s0), .val (.int v45), .val (.int v53), .val (.int v60), .val (.ref b64), .val (.int v198), .val (.int j255_s0_3), .unset] [(.ref b64)])) t
        refine XS.iload X59.here hx rfl (hb hby at_264) rfl ?_
        show Steps p.tables e below (T59.setTop (mkF m 266 #[.val (.long q0), .second, .val (.int p1), .val (.int p2), .val (.int p3), .val (.int j12_s0), .val (.int j26_s0), .val (.int j40_s0), .val (.int v45), .val (.int v53), .val (.int v60), .val (.ref b64), .val (.int v198), .val (.int j255_s0_3), .unset] [(.int v60), (.ref b64)])) t
        refine XS.iload X59.here hx rfl (hb hby at_266) rfl ?_
        show Steps p.tables e below (T59.setTop (mkF m 268 #[.val (.long q0), .second, .val (.int p1), .val (.int p2), .val (.int p3), .val (.int j12_s0), .val (.int j26_s0), .val (.int j40_s0), .val (.int v45), .val (.int v53), .val (.int v60), .val (.ref b64), .val (.int v198), .val (.int j255_s0_3), .unset] [(.int v45), (.int v60), (.ref b64)])) t
        refine st76 _ ?_
        show Steps p.tables e below (T76.setTop (mkF m 271 #[.val (.long q0), .second, .val (.int p1), .val (.int p2), .val (.int p3), .val (.int j12_s0), .val (.int j26_s0), .val (.int j40_s0), .val (.int v45), .val (.int v53), .val (.int v60), .val (.ref b64), .val (.int v198), .val (.int j255_s0_3), .unset] [(.int (fInb v60 v45 f228))])) t
        refine XS.goto X76.here hx rfl (pc0 := 271) (pc' := 283) rfl (hb hby at_271) (by decide) (by decide) ?_
        exact kt
      exact ⟨_, _, _, (if_neg hc259).symm, X76, e76, N76, K77⟩
  have K84 : ∀ t, Steps p.tables e below (T78.setTop (mkF m 289 #[.val (.long q0), .second, .val (.int p1), .val (.int p2), .val (.int p3), .val (.int j12_s0), .val (.int j26_s0), .val (.int j40_s0), .val (.int v45), .val (.int v53), .val (.int v60), .val (.ref b64), .val (.int v198), .val (.int j255_s0_3), .val (.int j283_s0)] [(.int j255_s0_3), (.int j283_s0)])) t → P0 t := by
    intro t kt
    refine K83 t ?_
    show Steps p.tables e below (T78.setTop (mkF m 283 #[.val (.long q0), .second, .val (.int p1), .val (.int p2), .val (.int p3), .val (.int j12_s0), .val (.int j26_s0), .val (.int j40_s0), .val (.int v45), .val (.int v53), .val (.int v60), .val (.ref b64), .val (.int v198), .val (.int j255_s0_3), .unset] [(.int j283_s0)])) t
    refine XS.istore X80.here hx rfl (hb hby at_283) rfl (l' := #[.val (.long q0), .second, .val (.int p1), .val (.int p2), .val (.int p3), .val (.int j12_s0), .val (.int j26_s0), .val (.int j40_s0), .val (.int v45), .val (.int v53), .val (.int v60), .val (.ref b64), .val (.int v198), .val (.int j255_s0_3), .val (.int j283_s0)]) rfl ?_
    show Steps p.tables e below (T78.setTop (mkF m 285 #[.val (.long q0), .second, .val (.int p1), .val (.int p2), .val (.int p3), .val (.int j12_s0), .val (.int j26_s0), .val (.int j40_s0), .val (.int v45), .val (.int v53), .val (.int v60), .val (.ref b64), .val (.int v198), .val (.int j255_s0_3), .val (.int j283_s0)] [])) t
    refine XS.iload X80.here hx rfl (hb hby at_285) rfl ?_
    show Steps p.tables e below (T78.setTop (mkF m 287 #[.val (.long q0), .second, .val (.int p1), .val (.int p2), .val (.int p3), .val (.int j12_s0), .val (.int j26_s0), .val (.int j40_s0), .val (.int v45), .val (.int v53), .val (.int v60), .val (.ref b64), .val (.int v198), .val (.int j255_s0_3), .val (.int j283_s0)] [(.int j283_s0)])) t
    refine XS.iload X80.here hx rfl (hb hby at_287) rfl ?_
    exact kt
  obtain ⟨j297_s0, hj297_s0, K87⟩ : ∃ (j297_s0 : Int32), j297_s0 = (if j283_s0 = j255_s0_3 then (1 : Int32) else (0 : Int32)) ∧ ∀ t, Steps p.tables e below (T78.setTop (mkF m 297 #[.val (.long q0), .second, .val (.int p1), .val (.int p2), .val (.int p3), .val (.int j12_s0), .val (.int j26_s0), .val (.int j40_s0), .val (.int v45), .val (.int v53), .val (.int v60), .val (.ref b64), .val (.int v198), .val (.int j255_s0_3), .val (.int j283_s0)] [(.int j297_s0)])) t → P0 t := by
    by_cases hc289 : j283_s0 = j255_s0_3
    · have K85 : ∀ t, Steps p.tables e below (T78.setTop (mkF m 297 #[.val (.long q0), .second, .val (.int p1), .val (.int p2), .val (.int p3), .val (.int j12_s0), .val (.int j26_s0), .val (.int j40_s0), .val (.int v45), .val (.int v53), .val (.int v60), .val (.ref b64), .val (.int v198), .val (.int j255_s0_3), .val (.int j283_s0)] [(.int (1 : Int32))])) t → P0 t := by
        intro t kt
        refine K84 t ?_
        show Steps p.tables e below (T78.setTop (mkF m 289 #[.val (.long q0), .second, .val (.int p1), .val (.int p2), .val (.int p3), .val (.int j12_s0), .val (.int j26_s0), .val (.int j40_s0), .val (.int v45), .val (.int v53), .val (.int v60), .val (.ref b64), .val (.int v198), .val (.int j255_s0_3), .val (.int j283_s0)] [(.int j255_s0_3), (.int j283_s0)])) t
        refine XS.icmpNo X80.here hx rfl (hb hby at_289) rfl (teq hc289).2 ?_
        show Steps p.tables e below (T78.setTop (mkF m 292 #[.val (.long q0), .second, .val (.int p1), .val (.int p2), .val (.int p3), .val (.int j12_s0), .val (.int j26_s0), .val (.int j40_s0), .val (.int v45), .val (.int v53), .val (.int v60), .val (.ref b64), .val (.int v198), .val (.int j255_s0_3), .val (.int j283_s0)] [])) t
        refine XS.iconst X80.here hx rfl (hb hby at_292) ?_
        show Steps p.tables e below (T78.setTop (mkF m 293 #[.val (.long q0), .second, .val (.int p1), .val (.int p2), .val (.int p3), .val (.int j12_s0), .val (.int j26_s0), .val (.int j40_s0), .val (.int v45), .val (.int v53), .val (.int v60), .val (.ref b64), .val (.int v198), .val (.int j255_s0_3), .val (.int j283_s0)] [(.int (1 : Int32))])) t
        refine XS.goto X80.here hx rfl (pc0 := 293) (pc' := 297) rfl (hb hby at_293) (by decide) (by decide) ?_
        exact kt
      exact ⟨_, (if_pos hc289).symm, K85⟩
    · have K86 : ∀ t, Steps p.tables e below (T78.setTop (mkF m 297 #[.val (.long q0), .second, .val (.int p1), .val (.int p2), .val (.int p3), .val (.int j12_s0), .val (.int j26_s0), .val (.int j40_s0), .val (.int v45), .val (.int v53), .val (.int v60), .val (.ref b64), .val (.int v198), .val (.int j255_s0_3), .val (.int j283_s0)] [(.int (0 : Int32))])) t → P0 t := by
        intro t kt
        refine K84 t ?_
        show Steps p.tables e below (T78.setTop (mkF m 289 #[.val (.long q0), .second, .val (.int p1), .val (.int p2), .val (.int p3), .val (.int j12_s0), .val (.int j26_s0), .val (.int j40_s0), .val (.int v45), .val (.int v53), .val (.int v60), .val (.ref b64), .val (.int v198), .val (.int j255_s0_3), .val (.int j283_s0)] [(.int j255_s0_3), (.int j283_s0)])) t
        refine XS.icmpYes X80.here hx rfl (pc0 := 289) (pc' := 296) rfl (hb hby at_289) rfl (feq hc289).2 (by decide) (by decide) ?_
        show Steps p.tables e below (T78.setTop (mkF m 296 #[.val (.long q0), .second, .val (.int p1), .val (.int p2), .val (.int p3), .val (.int j12_s0), .val (.int j26_s0), .val (.int j40_s0), .val (.int v45), .val (.int v53), .val (.int v60), .val (.ref b64), .val (.int v198), .val (.int j255_s0_3), .val (.int j283_s0)] [])) t
        refine XS.iconst X80.here hx rfl (hb hby at_296) ?_
        exact kt
      exact ⟨_, (if_neg hc289).symm, K86⟩
  have hres : j297_s0 = 1 := own_plain q0 p1 p2 p3 j12_s0 j26_s0 j40_s0 v45 v53 v60 f64 f74 f84 f94 f104 f114 f124 f135 f146 jf193 v198 j228_s0_1 f228 j255_s0_3 j283_s0 j297_s0 hj12_s0 hj26_s0 hj40_s0 hv45 hv53 hv60 hf64 hf74 hf84 hf94 hf104 hf114 hf124 hf135 hf146 hjf193 hv198 hj228_s0_1 hf228 hj255_s0_3 hj283_s0 hj297_s0
  obtain ⟨fs, hr, hrun, hended, hW, hsame⟩ := X80.leave (v := some (.int (1 : Int32))) (fun h => by rw [Bd.returns] at h; cases h)
  refine ⟨_, _, ?_, hrun, hended, _, _, rfl, ?_, ⟨_, rfl⟩, hW, hsame.mono (by decide) (by decide)⟩
  · rw [hres] at K87
    have q := K87 _ (retN X80 hx (t := .boolean) Bd.returns (by simp) (hb hby at_297) hr)
    rw [hP0] at q; exact q
  · exact ⟨rfl, N82⟩
set_option maxRecDepth 65536 in
set_option maxHeartbeats 40000000 in
theorem comes_1 {Post : Tables → Env → Array Value → State → Outcome → State → Prop} (hpost : ∀ tb e args s v u, (limb_1_1.after args s (.returned v) u = true ∧ limb_1_2.after args s (.returned v) u = true ∧ True) → FrameEnd s (.returned v) u (Jvm.fieldLocs frame_1_writes args s ++ Jvm.arrayLocs frame_1_arrays args s ++ Jvm.staticLocs frame_1_statics s) 16 128 → Post tb e args s (.returned v) u) :
    ArmFor flags0 classFile x code maxLocals ret World_1 tables_1 room_1 Calls_1 rest_1 Pre_1 Post := by
  intro l hfl _ _ p e ha hc hk s m args below hf hA hF happ hP
  obtain ⟨hcalls, hrest, hpre⟩ := hP
  obtain ⟨-, -, -, hnamed, -, -, -, hat⟩ := (Spec.applies_iff hf).mp happ
  obtain ⟨hg, hn⟩ := and_e (Cond.before_iff.mp (show (Jvm.Cond.and given_1 narrow_1).before args s = true from hpre))
  obtain ⟨gc, gr0⟩ := and_e hg
  obtain ⟨ga0, gr1⟩ := and_e gr0
  obtain ⟨ga1, gr2⟩ := and_e gr1
  obtain ⟨ga2, gr3⟩ := and_e gr2
  obtain ⟨w0, w1, w2, w3, rfl⟩ : ∃ w0 w1 w2 w3 : Value, args = #[w0, w1, w2, w3] := by
    have hs : args.size = 4 := by simpa [Cond.value, given_1] using gc
    obtain ⟨L⟩ := args
    match L, hs with
    | [w0, w1, w2, w3], _ => exact ⟨w0, w1, w2, w3, rfl⟩
  have hw := fun d (hd : d ∈ tables_1) => atoms_spec (ws := Jvm.Cond.code x code maxLocals ret :: tables_1) hat d (List.mem_cons_of_mem _ hd)
  obtain ⟨i0, ei0⟩ := isL_v ga0
  obtain rfl : w0 = (.long i0) := Option.some.inj ei0
  obtain ⟨i1, ei1⟩ := is_v ga1
  obtain rfl : w1 = (.int i1) := Option.some.inj ei1
  obtain ⟨i2, ei2⟩ := is_v ga2
  obtain rfl : w2 = (.int i2) := Option.some.inj ei2
  obtain ⟨i3, ei3⟩ := is_v gr3
  obtain rfl : w3 = (.int i3) := Option.some.inj ei3
  obtain ⟨n, o, h1, h2, h3, _, L, rfl, ⟨rfl, N⟩, hq⟩ := rm_law l s _ hw tables_1 i0 i1 i2 i3 s.heap s.heap.size (Nat.le_refl _) p e ha hc hk s m _ below hf ((Spec.applies_iff_loose hf).mp happ).1 ⟨rfl, State.Warmed39.refl s, rfl⟩ trivial
  refine ⟨n, _, h1, h2, h3, hpost _ _ _ _ _ _ ⟨Cond.after_iff.mpr rfl, Cond.after_iff.mpr (eq_i res_at (Term.int_eval (1)) rfl), trivial⟩ ⟨hq.1, hq.2.1, (hq.2.2.sift fun y hy => Or.inr (N y hy)).mono (by decide) (by decide)⟩⟩
theorem main_1_1 : Claimed_1_1 := comes_1 fun _ _ _ _ _ _ h hF => ⟨h.1, hF⟩
theorem main_1_2 : Claimed_1_2 := comes_1 fun _ _ _ _ _ _ h hF => ⟨h.2.1, hF⟩
end Jvm.Pilot.@@N@@
namespace Jvm.Pilot.@@N@@
open Jvm Jvm.ClassFile Sem Op Lib Jvm.Free Jvm.Stand Jvm.Pilot.@@N@@.Jvm.D
/-! MADE BY PROGRAM (witnessworld.py) out of the Statement's table words and the real class files: 9 classes; the members and pool entries that the words name. The judged class is class 1, her method 1. -/
namespace start1
open Jvm.ClassFile
def u (s : String) : CpInfo := .utf8 (stringToUtf16 s)
/-- a pool by its gaps: so many unusable entries, then the entry; so many at the end -/
def gap : Nat → List CpInfo → List CpInfo
  | 0, r => r
  | n + 1, r => .unusable :: gap n r
def poolList (es : List (Nat × CpInfo)) (last : Nat) : List CpInfo := es.foldr (fun e r => gap e.1 (e.2 :: r)) (gap last [])
def pool (es : List (Nat × CpInfo)) (last : Nat) : Array CpInfo := ⟨poolList es last⟩
def fileOf (pool : Array CpInfo) (this : Nat) (attrs : Array Attribute := #[]) (ms : Array MethodInfo := #[]) (fl : Nat := 33) (sup : Nat := 0) (ifs : Array Nat := #[]) (fds : Array FieldInfo := #[]) : ClassFile where
  minorVersion := 0
  majorVersion := 65
  constantPool := pool
  accessFlags := fl
  thisClass := this
  superClass := sup
  interfaces := ifs
  fields := fds
  methods := ms
  attributes := attrs
def plain (name : String) (sup : Option ClassId) : Class where
  name := name
  kind := .ordinary
  loader := none
  accessFlags := 33
  super := sup
  interfaces := #[]
  cf := none
  fields := #[]
  methods := #[]
  instanceTypes := #[]
  staticTypes := #[]
  resolved := #[]
  callSites := []
  init := .initialized
  statics := none
  mirror := none

def pool0 : Array CpInfo := pool [(5, u "<init>"), (0, u "()V"), (1, .class_ 10), (1, u "java/lang/Object")] 113

def k0m0 : Method := { name := "<init>", desc := "()V", sig := { parameters := [], returnType := none }, accessFlags := 1, code := none }
/-- java/lang/Object -/
def k0 : Class := { plain "java/lang/Object" none with
  accessFlags := 33
  interfaces := #[]
  cf := some (fileOf pool0 8 #[] #[{ accessFlags := 1, nameIndex := 5, descriptorIndex := 6, attributes := #[] }] 33 0 #[] #[])
  fields := #[]
  methods := #[k0m0]
  instanceTypes := #[]
  staticTypes := #[]
  resolved := Array.replicate 124 none
  statics := none }

def pool1 : Array CpInfo := pool [(2, .class_ 4), (1, u "java/lang/Object"), (0, u "<init>"), (0, u "()V"), (0, .integer 2147483647), (0, .methodref 9 10), (0, .class_ 11), (0, .nameAndType 12 13), (0, u "com/example/trimhash/trimhash/Ipv6Address"), (0, u "isInBrackets"), (0, u "([BII)Z"), (0, .class_ 15), (0, u "com/example/trimhash/trimhash/Ipv6AddressIsInBracketsPinLaw"), (2, u "law"), (0, u "(JIII)Z")] 5

def k1m0 : Method := { name := "<init>", desc := "()V", sig := { parameters := [], returnType := none }, accessFlags := 1, code := none }
def k1c1 : Code := { maxStack := 5, maxLocals := 15, code := code, exceptionTable := #[], attributes := #[] }
def k1m1 : Method := { name := "law", desc := "(JIII)Z", sig := { parameters := [.long, .int, .int, .int], returnType := some .boolean }, accessFlags := 9, code := some k1c1 }
/-- com/example/trimhash/trimhash/Ipv6AddressIsInBracketsPinLaw -/
def k1 : Class := { plain "com/example/trimhash/trimhash/Ipv6AddressIsInBracketsPinLaw" (some 0) with
  accessFlags := 49
  interfaces := #[]
  cf := some (fileOf pool1 14 #[] #[{ accessFlags := 1, nameIndex := 5, descriptorIndex := 6, attributes := #[] }, { accessFlags := 9, nameIndex := 18, descriptorIndex := 19, attributes := #[] }] 49 2 #[] #[])
  fields := #[]
  methods := #[k1m0, k1m1]
  instanceTypes := #[]
  staticTypes := #[]
  resolved := Array.replicate 25 none
  statics := none }

def pool2 : Array CpInfo := pool [(2, .class_ 4), (1, u "java/lang/Object"), (0, u "<init>"), (0, u "()V"), (1, .class_ 10), (1, u "com/example/trimhash/trimhash/Ipv6Address"), (0, u "isInBrackets"), (0, u "([BII)Z"), (31, u "IPV4_PREFIXES"), (0, u "[[I"), (51, u "GROUPS"), (0, u "I"), (2, u "MAX_GROUP_DIGITS"), (1, u "HEXADECIMAL"), (1, u "GROUP_BITS"), (0, u "IPV4_GROUPS"), (1, u "GROUP_MASK")] 15

def k2m0 : Method := { name := "<init>", desc := "()V", sig := { parameters := [], returnType := none }, accessFlags := 2, code := none }
def k2c1 : Code := { maxStack := 3, maxLocals := 3, code := prog_3_method_2_code, exceptionTable := #[], attributes := #[] }
def k2m1 : Method := { name := "isInBrackets", desc := "([BII)Z", sig := { parameters := [(.array .byte), .int, .int], returnType := some .boolean }, accessFlags := 8, code := some k2c1 }
/-- com/example/trimhash/trimhash/Ipv6Address -/
def k2 : Class := { plain "com/example/trimhash/trimhash/Ipv6Address" (some 0) with
  accessFlags := 32
  interfaces := #[]
  cf := some (fileOf pool2 8 #[] #[{ accessFlags := 2, nameIndex := 5, descriptorIndex := 6, attributes := #[] }, { accessFlags := 8, nameIndex := 11, descriptorIndex := 12, attributes := #[] }] 32 2 #[] #[{ accessFlags := 26, nameIndex := 97, descriptorIndex := 98, attributes := #[] }, { accessFlags := 26, nameIndex := 101, descriptorIndex := 98, attributes := #[] }, { accessFlags := 26, nameIndex := 103, descriptorIndex := 98, attributes := #[] }, { accessFlags := 26, nameIndex := 105, descriptorIndex := 98, attributes := #[] }, { accessFlags := 26, nameIndex := 106, descriptorIndex := 98, attributes := #[] }, { accessFlags := 26, nameIndex := 108, descriptorIndex := 98, attributes := #[] }, { accessFlags := 26, nameIndex := 44, descriptorIndex := 45, attributes := #[] }])
  fields := #[{ name := "GROUPS", type := .int, accessFlags := 26, slot := 0, constantValue := 0 }, { name := "MAX_GROUP_DIGITS", type := .int, accessFlags := 26, slot := 1, constantValue := 0 }, { name := "HEXADECIMAL", type := .int, accessFlags := 26, slot := 2, constantValue := 0 }, { name := "GROUP_BITS", type := .int, accessFlags := 26, slot := 3, constantValue := 0 }, { name := "IPV4_GROUPS", type := .int, accessFlags := 26, slot := 4, constantValue := 0 }, { name := "GROUP_MASK", type := .int, accessFlags := 26, slot := 5, constantValue := 0 }, { name := "IPV4_PREFIXES", type := (.array (.array .int)), accessFlags := 26, slot := 6, constantValue := 0 }]
  methods := #[k2m0, k2m1]
  instanceTypes := #[]
  staticTypes := #[.int, .int, .int, .int, .int, .int, (.array (.array .int))]
  resolved := Array.replicate 124 none
  statics := none }

def pool3 : Array CpInfo := pool [(1, u "java/lang/Cloneable"), (0, .class_ 1), (0, u "java/lang/Object"), (0, .class_ 3)] 3

/-- java/lang/Cloneable -/
def k3 : Class := { plain "java/lang/Cloneable" (some 0) with
  accessFlags := 1537
  interfaces := #[]
  cf := some (fileOf pool3 2 #[] #[] 1537 4 #[] #[])
  fields := #[]
  methods := #[]
  instanceTypes := #[]
  staticTypes := #[]
  resolved := Array.replicate 8 none
  statics := none }

def pool4 : Array CpInfo := pool [(1, u "java/io/Serializable"), (0, .class_ 1), (0, u "java/lang/Object"), (0, .class_ 3)] 3

/-- java/io/Serializable -/
def k4 : Class := { plain "java/io/Serializable" (some 0) with
  accessFlags := 1537
  interfaces := #[]
  cf := some (fileOf pool4 2 #[] #[] 1537 4 #[] #[])
  fields := #[]
  methods := #[]
  instanceTypes := #[]
  staticTypes := #[]
  resolved := Array.replicate 8 none
  statics := none }

/-- the primitive byte -/
def k5 : Class := { plain "byte" none with kind := .primitive 'B', accessFlags := 0x411 }
/-- [B -/
def k6 : Class := { plain "[B" (some 0) with kind := .array 5 .byte, interfaces := #[3, 4], accessFlags := 1041 }

/-- the primitive int -/
def k7 : Class := { plain "int" none with kind := .primitive 'I', accessFlags := 0x411 }
/-- [I -/
def k8 : Class := { plain "[I" (some 0) with kind := .array 7 .int, interfaces := #[3, 4], accessFlags := 1041 }

def heap : Heap := #[]
def classes : Array Class := #[k0, k1, k2, k3, k4, k5, k6, k7, k8]
def interned : List (Array UInt16 × Addr) := []
def slotsUsed : Nat := 0
def theMethod : MethodId := ⟨1, 1⟩
def args0 : Array Value := #[.long 5, .int 300, .int 7, .int 9]
def aboutOver (below : List Frame) : State where
  vm := { classes := classes, interned := interned.toArray }
  heap := heap
  slotsUsed := slotsUsed
  threads := #[{ frames := .invoking theMethod args0 :: below }]
def below0 : List Frame := [.native { method := ⟨0, 0⟩, args := #[] }]
def about1 : State := aboutOver below0
def p0 : Program := .bare "" "" ""
def e0 : Env := launch0.env 0 0 0
theorem w_frames : about1.frames = Frame.invoking theMethod args0 :: below0 := rfl
set_option maxRecDepth 65536 in
theorem w_args : argsFit about1.vm theMethod args0 = true := by decide +kernel
set_option maxRecDepth 65536 in
theorem w_heap : heapFits about1 = true := by decide +kernel
set_option maxRecDepth 65536 in
theorem w_runnable : about1.curStatus? = some .runnable := by decide +kernel
set_option maxRecDepth 65536 in
theorem w_alone : about1.alone = true := by decide +kernel
set_option maxRecDepth 65536 in
theorem w_named : about1.methodNamed? x = some theMethod := by decide +kernel
set_option maxRecDepth 65536 in
theorem w_hears : about1.hears theMethod below0 = true := by decide +kernel
set_option maxRecDepth 65536 in
theorem w_ripe : about1.ripe theMethod args0 below0 = true := by decide +kernel
theorem w_running : about1.status = .running := rfl
set_option maxRecDepth 65536 in
theorem w_room : about1.hasRoom e0.platform room_1 = true :=
  launch0.hasRoom_least _ room_1 (by decide +kernel) (by decide +kernel) (by decide +kernel) (by decide +kernel) (by decide +kernel) (by decide +kernel)
theorem allAtoms_all (ts : List Jvm.Cond) (a : Array Jvm.Value) (st : Jvm.State) : (allAtoms ts).before a st = ts.all (fun c => c.before a st) := by
  induction ts with
  | nil => rfl
  | cons c t ih =>
    show (Jvm.Cond.and c (allAtoms t)).before a st = _
    rw [Jvm.Cond.before_and, ih, List.all_cons]
def words1 : List Jvm.Cond := Jvm.Cond.code x code maxLocals ret :: tables_1
/-- a 'code' word, met by the world's own term for the bytes: nothing is compared byte by byte -/
theorem code_word {y : MethodName} {bytes : ByteArray} {mx : Nat} {rt : Option FieldType} {a : Array Value} {s : State} {m : MethodId} {meth : Method} {c : Code} (h1 : s.methodNamed? y = some m) (h2 : s.vm.method? m = some meth) (h3 : meth.code = some c) (h4 : c.code = bytes)
    (h5 : (c.maxLocals == mx && c.exceptionTable.isEmpty && decide (c.maxStack ≤ mostOperands) && decide (meth.sig.returnType = rt) && !meth.locks && decide (parseMethodDescriptor y.desc = some meth.sig)) = true) : (Jvm.Cond.code y bytes mx rt).before a s = true := by
  simp only [Bool.and_eq_true, beq_iff_eq, Bool.not_eq_true', decide_eq_true_eq] at h5
  obtain ⟨⟨⟨⟨⟨g1, g2⟩, g3⟩, g4⟩, g5⟩, g6⟩ := h5
  simp [Cond.before, Cond.holds, Cond.value, h1, h2, h3, h4, g1, g2, g3, g4, g5, g6]
def isCode : Jvm.Cond → Bool
  | .code _ _ _ _ => true
  | _ => false
theorem all_split {L : List Jvm.Cond} {P : Jvm.Cond → Bool} (h1 : L.all (fun c => isCode c || P c) = true) (h2 : ∀ c ∈ L.filter isCode, P c = true) : L.all P = true := by
  refine List.all_eq_true.mpr fun c hc => ?_
  have h := List.all_eq_true.mp h1 c hc
  rcases Bool.eq_false_or_eq_true (isCode c) with hi | hi
  · exact h2 c (List.mem_filter.mpr ⟨hc, hi⟩)
  · simpa [hi] using h
set_option maxRecDepth 65536 in
theorem w_c0 : (Jvm.Cond.code x code maxLocals ret).before args0 about1 = true := code_word (m := ⟨1, 1⟩) (meth := k1m1) (c := k1c1) (by decide +kernel) rfl rfl rfl (by decide +kernel)
set_option maxRecDepth 65536 in
theorem w_c1 : (Jvm.Cond.code ({ cls := "com/example/trimhash/trimhash/Ipv6Address", name := "isInBrackets", desc := "([BII)Z" } : Jvm.MethodName) prog_3_method_2_code (3 : Nat) (Option.some Jvm.ClassFile.FieldType.boolean)).before args0 about1 = true := code_word (m := ⟨2, 1⟩) (meth := k2m1) (c := k2c1) (by decide +kernel) rfl rfl rfl (by decide +kernel)
def codes1 : List Jvm.Cond := [Jvm.Cond.code x code maxLocals ret, Jvm.Cond.code ({ cls := "com/example/trimhash/trimhash/Ipv6Address", name := "isInBrackets", desc := "([BII)Z" } : Jvm.MethodName) prog_3_method_2_code (3 : Nat) (Option.some Jvm.ClassFile.FieldType.boolean)]
set_option maxRecDepth 65536 in
theorem codes_eq : words1.filter isCode = codes1 := rfl
theorem w_codes : ∀ c ∈ words1.filter isCode, c.before args0 about1 = true := by
  rw [codes_eq]
  intro c hc
  simp only [codes1, List.mem_cons, List.not_mem_nil, or_false] at hc
  rcases hc with rfl | rfl
  · exact w_c0
  · exact w_c1
set_option maxRecDepth 65536 in
theorem w_t1 : words1.all (fun c => isCode c || c.before args0 about1) = true := by decide +kernel
theorem w_tables : (allAtoms (Jvm.Cond.code x code maxLocals ret :: tables_1)).before args0 about1 = true := by
  rw [allAtoms_all]
  show words1.all (fun c => c.before args0 about1) = true
  refine all_split ?_ w_codes
  rw [w_t1]
set_option maxRecDepth 65536 in
theorem w_case : (Jvm.Cond.and given_1 narrow_1).before args0 about1 = true := by decide +kernel
theorem w_applies : (headSpec (Jvm.Cond.code x code maxLocals ret :: tables_1) room_1).applies x e0.platform about1 = true :=
  (Spec.applies_iff w_frames).mpr ⟨w_running, w_runnable, w_alone, w_named, w_hears, w_ripe, w_room, w_tables⟩
theorem atStart : AtStart classFile x code maxLocals ret World_1 tables_1 room_1 Calls_1 rest_1 Pre_1 launch0 p0 e0 about1 theMethod args0 below0 :=
  ⟨lists_1, trivial, launch0.admits_env _ _ _, launch0.least_env, fairChoices_fair.cas, fairChoices_fair.clock, w_frames, w_args, w_heap, w_applies, trivial, trivial, w_case⟩
end start1
theorem witness_1 : WitnessClaimed_1 := ⟨start1.p0, start1.e0, start1.about1, start1.theMethod, start1.args0, start1.below0, start1.atStart⟩
end Jvm.Pilot.@@N@@
