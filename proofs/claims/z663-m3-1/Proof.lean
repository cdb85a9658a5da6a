import JvmDerived
import JvmDerived.Pilot.@@N@@Statement
import JvmDerived.Pilot.@@N@@Code
set_option linter.unusedVariables false
set_option linter.unusedSimpArgs false
namespace Jvm.Pilot.@@N@@
open Jvm Jvm.ClassFile Sem Op Lib Jvm.Free Jvm.Stand Jvm.LawKit Jvm.RoadKit Bundle Jvm.Pilot.@@N@@.Jvm.D
section Own
variable {p : Program} {l : Launch} {e : Env} {R : Room} {s : State} {m : MethodId} {args : Array Value} {below : List Frame} {meth : Method} {c : Code} {T : State} {locs : List Loc} {cells slots : Nat} {Z : State} {a0 : Array Value} {h h' : Heap}
/-- from S the run comes to an end of the method of which QQ holds -/
def own_Go (p : Program) (e : Env) (below : List Frame) (S : State) (QQ : Outcome → State → Prop) : Prop :=
  ∃ s₂ o, Steps p.tables e below S s₂ ∧ s₂.status = .running ∧ Ended s₂ below o ∧ QQ o s₂
theorem own_Go.of {S S' : State} {QQ : Outcome → State → Prop} (h : ∀ t, Steps p.tables e below S' t → Steps p.tables e below S t) (g : own_Go p e below S' QQ) : own_Go p e below S QQ := by
  obtain ⟨a, b, h1, h2⟩ := g
  exact ⟨a, b, h _ h1, h2⟩
/-- how a walked body ends: it returns v, with Q of the value, the heap and the places written -/
def own_End (s : State) (Q : Option Value → Heap → List Loc → Prop) (C K : Nat) : Outcome → State → Prop :=
  fun o U' => ∃ v L, o = .returned v ∧ Q v U'.heap L ∧ FrameEnd s o U' L C K
/-- the contract of a body, as RoadKit.backOf takes it -/
abbrev own_Met (l : Launch) (Z : State) (h0 : Heap) (y : MethodName) (bytes : ByteArray) (maxL : Nat) (ret : Option FieldType) (ws : List Jvm.Cond) (rm : Room) (as' : Array Value) (Q : Option Value → Heap → List Loc → Prop) : Prop :=
  MetFree l y (head1 (Jvm.Cond.code y bytes maxL ret :: ws) rm) (fun a U => a = as' ∧ Z.Warmed39 U.vm ∧ U.heap = h0) (fun _ _ _ _ _ => True) (fun _ U o U' => ∃ v L, o = .returned v ∧ Q v U'.heap L ∧ FrameEnd U o U' L rm.cells rm.slots)
theorem own_enter {h0 : Heap} {y : MethodName} {bytes : ByteArray} {maxL : Nat} {ret : Option FieldType} {ws : List Jvm.Cond} {rm : Room} {as' : Array Value} {Q : Option Value → Heap → List Loc → Prop} (hpl : plainFor y = true)
    (body : ∀ (p : Program) (e : Env) (s : State) (m : MethodId) (below : List Frame) (meth : Method) (c : Code) (T0 : State), Stand p l e rm s m as' below meth c T0 [] 0 0 → p.tables.exec = Jvm.exec → c.code = bytes → c.maxLocals = maxL → meth.sig.returnType = ret → meth.locks = false → s.vm.findClass y.cls = some m.cls → meth.name = y.name → Z.Warmed39 s.vm → T0.heap = h0 →
      own_Go p e below (T0.setTop (entryFrame m as' maxL)) (own_End s Q rm.cells rm.slots)) : own_Met l Z h0 y bytes maxL ret ws rm as' Q := by
  refine MetFree.of_bodySF hpl hisR ?_
  intro p e s m args below meth c s₁ Bd hml0 hP hK
  obtain ⟨rfl, hZ, hh⟩ := hP
  exact body p e s m below meth c s₁ (Stand.of_body Bd) Bd.exec Bd.bytes hml0 Bd.returns Bd.notSynchronized (findClass_of_methodNamed Bd.named) (name_of_methodNamed Bd.named Bd.method).1 hZ (by rw [← hh, Bd.state]; rfl)
theorem own_mono (X : Stand p l e R s m args below meth c T locs cells slots) {c' k' : Nat} (hc : cells ≤ c') (hk : slots ≤ k') : Stand p l e R s m args below meth c T locs c' k' :=
  ⟨X.admits, X.cas, X.clock, X.frames, X.room, X.hears, X.method, X.code, X.here, X.tail, X.warmed, X.limits, X.bytes, X.same.mono hc hk⟩
theorem own_leave (X : Stand p l e R s m args below meth c T locs cells slots) (hlk : meth.locks = false) {v : Option Value} {Q : Option Value → Heap → List Loc → Prop} {C K : Nat} {g : JFrame} (hv : meth.sig.returnType = none → v = none)
    (st : ∀ fs, (∀ (f : JFrame) (acts : List Action), f.method = m → f.locked = none → f.entered = [] → (doReturn e (T.setTop f) acts v).1 = T.setFrames fs) → Steps p.tables e below (T.setTop g) (T.setFrames fs))
    (eT : T.heap = h) (hQ : Q v h locs) (hc : cells ≤ C) (hk : slots ≤ K) : own_Go p e below (T.setTop g) (own_End s Q C K) := by
  obtain ⟨fs, hr, hrun, hended, hW, hsame⟩ := X.leave (v := v) hv hlk
  subst eT
  exact ⟨_, _, st fs hr, hrun, hended, v, locs, rfl, hQ, ⟨_, rfl⟩, hW, hsame.mono hc hk⟩
theorem own_retI (X : Stand p l e R s m args below meth c T locs cells slots) (hx : p.tables.exec = Jvm.exec) (hlk : meth.locks = false) {pc : Nat} {Ls : Array Slot} {z : Int32} {rest : List Value} {Q : Option Value → Heap → List Loc → Prop} {C K : Nat} (hret : meth.sig.returnType = some .int) (hd : decode c.code pc = .ok (.ireturn, 1))
    (eT : T.heap = h) (hQ : Q (some (.int z)) h locs) (hc : cells ≤ C) (hk : slots ≤ K) : own_Go p e below (T.setTop (mkF m pc Ls (.int z :: rest))) (own_End s Q C K) := by
  refine own_leave X hlk (fun q => by rw [hret] at q; cases q) (fun fs hl => ?_) eT hQ hc hk
  have hm' : T.vm.method? m = some meth := X.method'
  have hn : narrow .int (.int z) = .int z := rfl
  show Steps p.tables e below (T.setTop { method := m, pc := pc, locals := Ls, stack := _ :: rest, locked := none }) _
  jvm_step X.here [X.here.top, hx, hd, hm', hret, hn]
  first | (intro acts; rw [hl _ acts rfl rfl rfl]) | rw [hl _ _ rfl rfl rfl]
  exact Steps.refl _
theorem own_retN (X : Stand p l e R s m args below meth c T locs cells slots) (hx : p.tables.exec = Jvm.exec) (hlk : meth.locks = false) {pc : Nat} {Ls : Array Slot} {z : Int32} {t : FieldType} {rest : List Value} {Q : Option Value → Heap → List Loc → Prop} {C K : Nat} (hret : meth.sig.returnType = some t) (ht : t = .boolean ∨ t = .byte ∨ t = .char ∨ t = .short) (hd : decode c.code pc = .ok (.ireturn, 1))
    (eT : T.heap = h) (hQ : Q (some (.int (nar t z))) h locs) (hc : cells ≤ C) (hk : slots ≤ K) : own_Go p e below (T.setTop (mkF m pc Ls (.int z :: rest))) (own_End s Q C K) :=
  own_leave X hlk (fun q => by rw [hret] at q; cases q) (fun fs hl => retN X hx hret ht hd hl) eT hQ hc hk
theorem own_retV (X : Stand p l e R s m args below meth c T locs cells slots) (hx : p.tables.exec = Jvm.exec) (hlk : meth.locks = false) {pc : Nat} {Ls : Array Slot} {Q : Option Value → Heap → List Loc → Prop} {C K : Nat} (hret : meth.sig.returnType = none) (hd : decode c.code pc = .ok (.return_, 1))
    (eT : T.heap = h) (hQ : Q none h locs) (hc : cells ≤ C) (hk : slots ≤ K) : own_Go p e below (T.setTop (mkF m pc Ls [])) (own_End s Q C K) :=
  own_leave X hlk (fun _ => rfl) (fun fs hl => X.returnOut hx hret hd hl) eT hQ hc hk
theorem own_retJ (X : Stand p l e R s m args below meth c T locs cells slots) (hx : p.tables.exec = Jvm.exec) (hlk : meth.locks = false) {pc : Nat} {Ls : Array Slot} {z : Int64} {Q : Option Value → Heap → List Loc → Prop} {C K : Nat} (hret : meth.sig.returnType = some .long) (hd : decode c.code pc = .ok (.lreturn, 1))
    (eT : T.heap = h) (hQ : Q (some (.long z)) h locs) (hc : cells ≤ C) (hk : slots ≤ K) : own_Go p e below (T.setTop (mkF m pc Ls [.long z])) (own_End s Q C K) :=
  own_leave X hlk (fun q => by rw [hret] at q; cases q) (fun fs hl => X.lreturnOut hx hret hd hl) eT hQ hc hk
theorem own_retA (X : Stand p l e R s m args below meth c T locs cells slots) (hx : p.tables.exec = Jvm.exec) (hlk : meth.locks = false) {pc : Nat} {Ls : Array Slot} {v : Value} {t : FieldType} {rest : List Value} {Q : Option Value → Heap → List Loc → Prop} {C K : Nat} (hret : meth.sig.returnType = some t) (ht : t.isReference = true) (hv : v.isRef = true) (hd : decode c.code pc = .ok (.areturn, 1))
    (eT : T.heap = h) (hQ : Q (some v) h locs) (hc : cells ≤ C) (hk : slots ≤ K) : own_Go p e below (T.setTop (mkF m pc Ls (v :: rest))) (own_End s Q C K) := by
  refine own_leave X hlk (fun q => by rw [hret] at q; cases q) (fun fs hl => ?_) eT hQ hc hk
  have hm' : T.vm.method? m = some meth := X.method'
  show Steps p.tables e below (T.setTop { method := m, pc := pc, locals := Ls, stack := _ :: rest, locked := none }) _
  jvm_step X.here [X.here.top, hx, hd, hm', hret, ht, hv]
  first | (intro acts; rw [hl _ acts rfl rfl rfl]) | rw [hl _ _ rfl rfl rfl]
  exact Steps.refl _
/-! an array whose place i holds f i -/
def own_Ar (Z : State) (h : Heap) (a : Addr) (ty : FieldType) (n : Nat) (f : Nat → Value) : Prop :=
  n < 2 ^ 31 ∧ ∃ c : Cell, Arr Z h a c ty ∧ c.slots.size = n ∧ ∀ i, i < n → c.slots[i]? = some (f i) ∧ fits ty (f i) = true
def own_up (f : Nat → Value) (k : Nat) (v : Value) : Nat → Value := fun i => if i = k then v else f i
def own_I (g : Nat → Int32) : Nat → Value := fun j => .int (g j)
def own_set (g : Nat → Int32) (k : Nat) (x : Int32) : Nat → Int32 := fun j => if j = k then x else g j
theorem own_upI {g : Nat → Int32} {k : Nat} {x : Int32} : own_up (own_I g) k (.int x) = own_I (own_set g k x) := by
  funext j
  unfold own_up own_I own_set
  by_cases q : j = k
  · rw [if_pos q, if_pos q]
  · rw [if_neg q, if_neg q]
section Arrays
variable {a b : Addr} {ty : FieldType} {n k : Nat} {f : Nat → Value} {v : Value} {ws : List Addr} {sl : Nat} {j : Int32}
theorem own_Ar.lt (F : own_Ar Z h a ty n f) : a < h.size := by obtain ⟨_, c, A, _⟩ := F; exact A.lt
theorem own_Ar.ext (F : own_Ar Z h a ty n f) (E : Ext h h') : own_Ar Z h' a ty n f := by obtain ⟨q, c, A, r⟩ := F; exact ⟨q, c, A.ext E, r⟩
theorem own_Ar.other (F : own_Ar Z h b ty n f) (W : Wr h h' a sl v) (q : b ≠ a) : own_Ar Z h' b ty n f := by obtain ⟨q0, c, A, r⟩ := F; exact ⟨q0, c, A.other W q, r⟩
theorem own_Ar.keep (F : own_Ar Z h a ty n f) (K : Keep h h' ws) (q : a ∉ ws) : own_Ar Z h' a ty n f := by obtain ⟨q0, c, A, r⟩ := F; exact ⟨q0, c, ⟨K.2.1 a c A.1 q, A.2⟩, r⟩
theorem own_Ar.eqv {g : Nat → Value} (F : own_Ar Z h a ty n f) (q : ∀ i, i < n → f i = g i) : own_Ar Z h a ty n g := by
  obtain ⟨q0, c, A, r1, r2⟩ := F; exact ⟨q0, c, A, r1, fun i hi => by rw [← q i hi]; exact r2 i hi⟩
theorem own_Ar.eqvI {g g' : Nat → Int32} (F : own_Ar Z h a ty n (own_I g)) (q : ∀ i, i < n → g i = g' i) : own_Ar Z h a ty n (own_I g') := F.eqv fun i hi => by show Value.int _ = Value.int _; rw [q i hi]
theorem own_clamp (hk : k < 2 ^ 31) : (Int32.ofNat k).toNatClampNeg = k ∧ ¬ Int32.ofNat k < 0 := by
  have e : (Int32.ofNat k).toInt = (k : Int) := Int32.toInt_ofNat_of_lt hk
  refine ⟨?_, ?_⟩
  · show (Int32.ofNat k).toInt.toNat = k
    rw [e]; rfl
  · rw [Int32.lt_iff_toInt_lt, e]
    show ¬ ((k : Int) < 0)
    omega
theorem own_inb {cl : Cell} (S : cl.slots.size = n) (hn : n < 2 ^ 31) (e : j = Int32.ofNat k) (hk : k < n) : ¬ (j < 0 ∨ cl.slots.size ≤ j.toNatClampNeg) := by
  subst e
  obtain ⟨e1, e2⟩ := own_clamp (k := k) (by omega)
  rw [e1, S]
  rintro (q | q)
  · exact e2 q
  · omega
theorem own_Ar.get (F : own_Ar Z h a ty n f) (q : j = Int32.ofNat k ∧ k < n) : ∃ cl : Cell, Arr Z h a cl ty ∧ ¬ (j < 0 ∨ cl.slots.size ≤ j.toNatClampNeg) ∧ cl.slots[j.toNatClampNeg]? = some (f k) := by
  obtain ⟨hn, c, A, S, H⟩ := F
  refine ⟨c, A, own_inb S hn q.1 q.2, ?_⟩
  rw [q.1, (own_clamp (k := k) (by omega)).1]
  exact (H k q.2).1
theorem own_Ar.len (F : own_Ar Z h a ty n f) : ∃ cl : Cell, Arr Z h a cl ty ∧ cl.slots.size.toInt32 = Int32.ofNat n := by
  obtain ⟨hn, c, A, S, H⟩ := F
  refine ⟨c, A, ?_⟩
  rw [S]
theorem own_Ar.put (F : own_Ar Z h a ty n f) (q : j = Int32.ofNat k ∧ k < n) : ∃ cl : Cell, Arr Z h a cl ty ∧ ¬ (j < 0 ∨ cl.slots.size ≤ j.toNatClampNeg) ∧ ∀ {v : Value} {h' : Heap}, fits ty v = true → Wr h h' a j.toNatClampNeg v → own_Ar Z h' a ty n (own_up f k v) := by
  obtain ⟨hn, c, A, S, H⟩ := F
  refine ⟨c, A, own_inb S hn q.1 q.2, fun {v h'} hv W => ⟨hn, _, A.same W, by rw [sz_set]; exact S, fun i hi => ?_⟩⟩
  rw [q.1, (own_clamp (k := k) (by omega)).1]
  by_cases u : i = k
  · subst u
    simp [own_up, Cell.setSlot, S, hi, hv]
  · have u' : ¬ k = i := fun z => u z.symm
    simp only [own_up, u, if_false, Cell.setSlot, Array.getElem?_setIfInBounds, u']
    exact H i hi
theorem own_newP (X : Stand p l e R s m args below meth c T locs cells slots) (hx : p.tables.exec = Jvm.exec) (hZ : Z.Warmed39 s.vm) {aty : ArrayType} (w : (Cond.arrayClass (newarray.typeOf aty)).before a0 Z = true) (eT : T.heap = h) {g : JFrame} (hg : g.method = m) (hd : decode c.code g.pc = .ok (.newarray aty, 2)) {z : Int32} {rest : List Value} (hs : g.stack = .int z :: rest)
    {n cap : Nat} (hz : z = Int32.ofNat n) (hn : n ≤ cap) (hb : cap * 8 ≤ 536870912) (hc : cells + 1 ≤ R.cells) (hl : slots + cap ≤ R.slots) :
    ∃ T' h', Stand p l e R s m args below meth c T' locs (cells + 1) (slots + cap) ∧ T'.heap = h' ∧ Ext h h' ∧ own_Ar Z h' h.size (newarray.typeOf aty) n (fun _ => defaultValue (newarray.typeOf aty)) ∧
      ∀ target, Steps p.tables e below (T'.setTop { g with pc := g.pc + 2, stack := .ref h.size :: rest }) target → Steps p.tables e below (T.setTop g) target := by
  obtain ⟨e1, e2⟩ := own_clamp (k := n) (by omega)
  subst hz
  obtain ⟨T', h', cA, X', e', E, A, st⟩ := newP X hx hZ w eT hg hd hs e2 (cap := cap) (by rw [e1]; exact hn) hb hc hl
  refine ⟨T', h', X', e', E, ⟨by omega, _, A, by rw [sz_new, e1], fun i hi => ⟨?_, by cases aty <;> rfl⟩⟩, st⟩
  simp [newA, e1, hi]
end Arrays
theorem own_st1 {l : Array Slot} {i : Nat} {v : Value} {o : Slot} (hold : l[i]? = some o) (ho : o = .unset ∨ ∃ w, o = .val w ∧ w.category = 1) (hv : v.category = 1) : storeLocals l i v = some (l.setIfInBounds i (.val v)) := XS.store1 hold ho hv
/-- the cell at x stands as it stood -/
def own_Kx (h h' : Heap) (x : Addr) : Prop := h.size ≤ h'.size ∧ ∀ c : Cell, h[x]? = some c → h'[x]? = some c
section Kx
variable {x a : Addr} {h2 : Heap} {sl : Nat} {v : Value} {ws : List Addr}
theorem own_Kx.refl : own_Kx h h x := ⟨Nat.le_refl _, fun _ q => q⟩
theorem own_Kx.ext (K : own_Kx h h' x) (E : Ext h' h2) : own_Kx h h2 x := ⟨Nat.le_trans K.1 E.1, fun c q => E.2 _ _ (K.2 c q)⟩
theorem own_Kx.keep (K : own_Kx h h' x) (K' : Keep h' h2 ws) (q : x ∉ ws) : own_Kx h h2 x := ⟨Nat.le_trans K.1 K'.1, fun c r => K'.2.1 _ _ (K.2 c r) q⟩
theorem own_Kx.wr (K : own_Kx h h' x) (W : Wr h' h2 a sl v) (q : x ≠ a) : own_Kx h h2 x := K.keep (Keep.of_wr W) (ninS q nin0)
theorem own_Kx.trans (K : own_Kx h h' x) (K' : own_Kx h' h2 x) : own_Kx h h2 x := ⟨Nat.le_trans K.1 K'.1, fun c r => K'.2 _ (K.2 c r)⟩
theorem own_Ar.kx {ty : FieldType} {n : Nat} {f : Nat → Value} (F : own_Ar Z h x ty n f) (K : own_Kx h h' x) : own_Ar Z h' x ty n f := by obtain ⟨q0, c, A, r⟩ := F; exact ⟨q0, c, ⟨K.2 c A.1, A.2⟩, r⟩
def own_Lt (h : Heap) (x : Addr) : Prop := x < h.size
theorem own_Lt.lt (q : own_Lt h x) : x < h.size := q
theorem own_Lt.ext (q : own_Lt h x) (E : Ext h h') : own_Lt h' x := Nat.lt_of_lt_of_le q E.1
theorem own_Lt.keep (q : own_Lt h x) (K : Keep h h' ws) : own_Lt h' x := Nat.lt_of_lt_of_le q K.1
theorem own_Lt.wr (q : own_Lt h x) (W : Wr h h' a sl v) : own_Lt h' x := q.keep (Keep.of_wr W)
theorem own_Lt.kx {y : Addr} (q : own_Lt h x) (K : own_Kx h h' y) : own_Lt h' x := Nat.lt_of_lt_of_le q K.1
end Kx
/-! numbers: small naturals as ints -/
theorem own_toInt {a : Nat} (ha : a < 2 ^ 31) : (Int32.ofNat a).toInt = (a : Int) := Int32.toInt_ofNat_of_lt ha
theorem own_mask (x : Int32) (m : Nat) : ∃ k : Nat, k ≤ m ∧ (x &&& Int32.ofNat m) = Int32.ofNat k := by
  refine ⟨(x.toBitVec.toNat &&& (m % 2 ^ 32)), Nat.le_trans Nat.and_le_right (Nat.mod_le _ _), ?_⟩
  apply Int32.toBitVec_inj.mp
  apply BitVec.eq_of_toNat_eq
  rw [Int32.toBitVec_and, BitVec.toNat_and]
  show _ &&& (BitVec.ofNat 32 m).toNat = (BitVec.ofNat 32 _).toNat
  rw [BitVec.toNat_ofNat, BitVec.toNat_ofNat]
  rw [Nat.mod_eq_of_lt (a := _ &&& _)]
  exact Nat.lt_of_le_of_lt Nat.and_le_right (Nat.mod_lt _ (by decide))
theorem own_ltN {a b : Nat} (ha : a < 2 ^ 31) (hb : b < 2 ^ 31) : Int32.ofNat a < Int32.ofNat b ↔ a < b := by
  rw [Int32.lt_iff_toInt_lt, own_toInt ha, own_toInt hb]; omega
theorem own_eqN' {a b : Nat} (h : a = b) : Int32.ofNat a = Int32.ofNat b := by rw [h]
theorem own_eqN {a b : Nat} (ha : a < 2 ^ 31) (hb : b < 2 ^ 31) : Int32.ofNat a = Int32.ofNat b ↔ a = b := by
  constructor
  · intro h
    have h2 := congrArg Int32.toInt h
    rw [own_toInt ha, own_toInt hb] at h2; omega
  · exact own_eqN'
theorem own_addN (a b : Nat) : Int32.ofNat a + Int32.ofNat b = Int32.ofNat (a + b) := (Int32.ofNat_add a b).symm
theorem own_subN {a b : Nat} (h : b ≤ a) : Int32.ofNat a - Int32.ofNat b = Int32.ofNat (a - b) := by
  have h2 : Int32.ofNat a = Int32.ofNat (a - b) + Int32.ofNat b := by rw [own_addN]; congr 1; omega
  rw [h2, Int32.add_sub_cancel]
theorem own_nzN {a : Nat} (h0 : 0 < a) (ha : a < 2 ^ 31) : Int32.ofNat a ≠ (0 : Int32) := by
  intro h
  have h2 : Int32.ofNat a = Int32.ofNat 0 := h
  rw [own_eqN ha (by decide)] at h2; omega
theorem own_remN {a b : Nat} (ha : a < 2 ^ 31) (hb : b < 2 ^ 31) : (Int32.ofNat a - (Int32.ofNat a / Int32.ofNat b) * Int32.ofNat b) = Int32.ofNat (a % b) := by
  apply Int32.toInt_inj.mp
  have hm : a % b < 2 ^ 31 := Nat.lt_of_le_of_lt (Nat.mod_le _ _) ha
  rw [rem_toInt, own_toInt ha, own_toInt hb, own_toInt hm]
  exact (Int.ofNat_tmod a b).symm
end Own

def own_s (x : Int64) (k : Int32) : Int64 := ((x.toUInt64 >>> (k &&& 0x3f).toInt64.toUInt64).toInt64)
def own_nt (c i : Int64) : Int64 := i * ((2 : Int64) - c * i)
def own_inv (c : Int64) : Int64 := own_nt c (own_nt c (own_nt c (own_nt c (own_nt c c))))
def own_m1 (x : Int64) : Int64 := (x ^^^ own_s x 30) * (-4658895280553007687 : Int64)
def own_m2 (x : Int64) : Int64 := (x ^^^ own_s x 27) * (-7723592293110705685 : Int64)
def own_m3 (x : Int64) : Int64 := x ^^^ own_s x 31
def own_mix (x : Int64) : Int64 := own_m3 (own_m2 (own_m1 x))
def own_u3 (y : Int64) : Int64 := (y ^^^ own_s y 31) ^^^ own_s y 62
def own_u2 (y : Int64) : Int64 := (y ^^^ own_s y 27) ^^^ own_s y 54
def own_u1 (y : Int64) : Int64 := (y ^^^ own_s y 30) ^^^ own_s y 60
def own_unmix (y : Int64) : Int64 := own_u1 (own_u2 (own_u3 y * own_inv (-7723592293110705685 : Int64)) * own_inv (-4658895280553007687 : Int64))
theorem own_i1 : (-4658895280553007687 : Int64) * own_inv (-4658895280553007687 : Int64) = 1 := by decide +kernel
theorem own_i2 : (-7723592293110705685 : Int64) * own_inv (-7723592293110705685 : Int64) = 1 := by decide +kernel
theorem own_sb (x : Int64) (k : Int32) : (own_s x k).toBitVec = x.toBitVec >>> ((k &&& 0x3f).toInt64.toBitVec % 64) := rfl
theorem own_sbn (x : Int64) (k : Int32) (n : Nat) (h : (((k &&& 0x3f).toInt64.toBitVec % 64 : BitVec 64)).toNat = n) : (own_s x k).toBitVec = x.toBitVec >>> n := by
  rw [own_sb, BitVec.ushiftRight_eq', h]
theorem own_xs (z : BitVec 64) (k : Nat) (hk : 64 ≤ 3 * k) : ((z ^^^ z >>> k) ^^^ (z ^^^ z >>> k) >>> k) ^^^ (z ^^^ z >>> k) >>> (2 * k) = z := by
  apply BitVec.eq_of_getLsbD_eq
  intro i hi
  simp only [BitVec.getLsbD_xor, BitVec.getLsbD_ushiftRight]
  have e1 : k + (k + i) = 2 * k + i := by omega
  have e2 : z.getLsbD (k + (2 * k + i)) = false := BitVec.getLsbD_of_ge _ _ (by omega)
  rw [e1, e2]
  cases z.getLsbD i <;> cases z.getLsbD (k + i) <;> cases z.getLsbD (2 * k + i) <;> rfl
theorem own_r3 (z : Int64) : own_u3 (own_m3 z) = z := by
  apply Int64.toBitVec_inj.mp
  have e31 : ∀ x : Int64, (own_s x 31).toBitVec = x.toBitVec >>> 31 := fun x => own_sbn x 31 31 (by decide)
  have e62 : ∀ x : Int64, (own_s x 62).toBitVec = x.toBitVec >>> (2 * 31) := fun x => own_sbn x 62 62 (by decide)
  simp only [own_u3, own_m3, Int64.toBitVec_xor, e31, e62]
  exact own_xs z.toBitVec 31 (by decide)
theorem own_r2 (z : Int64) : own_u2 (z ^^^ own_s z 27) = z := by
  apply Int64.toBitVec_inj.mp
  have e31 : ∀ x : Int64, (own_s x 27).toBitVec = x.toBitVec >>> 27 := fun x => own_sbn x 27 27 (by decide)
  have e62 : ∀ x : Int64, (own_s x 54).toBitVec = x.toBitVec >>> (2 * 27) := fun x => own_sbn x 54 54 (by decide)
  simp only [own_u2, Int64.toBitVec_xor, e31, e62]
  exact own_xs z.toBitVec 27 (by decide)
theorem own_r1 (z : Int64) : own_u1 (z ^^^ own_s z 30) = z := by
  apply Int64.toBitVec_inj.mp
  have e31 : ∀ x : Int64, (own_s x 30).toBitVec = x.toBitVec >>> 30 := fun x => own_sbn x 30 30 (by decide)
  have e62 : ∀ x : Int64, (own_s x 60).toBitVec = x.toBitVec >>> (2 * 30) := fun x => own_sbn x 60 60 (by decide)
  simp only [own_u1, Int64.toBitVec_xor, e31, e62]
  exact own_xs z.toBitVec 30 (by decide)
theorem own_round (x : Int64) : own_unmix (own_mix x) = x := by
  unfold own_unmix own_mix
  rw [own_r3]
  unfold own_m2
  rw [Int64.mul_assoc, own_i2, Int64.mul_one, own_r2]
  unfold own_m1
  rw [Int64.mul_assoc, own_i1, Int64.mul_one, own_r1]
theorem d3_0 : decode method_2_code 0 = .ok (.lload_n 0, 1) := by decide +kernel
theorem d3_1 : decode method_2_code 1 = .ok (.lstore_n 2, 1) := by decide +kernel
theorem d3_2 : decode method_2_code 2 = .ok (.lload_n 2, 1) := by decide +kernel
theorem d3_3 : decode method_2_code 3 = .ok (.ldc2_w 7, 3) := by decide +kernel
theorem d3_6 : decode method_2_code 6 = .ok (.lload_n 0, 1) := by decide +kernel
theorem d3_7 : decode method_2_code 7 = .ok (.lload_n 2, 1) := by decide +kernel
theorem d3_8 : decode method_2_code 8 = .ok (.lmul, 1) := by decide +kernel
theorem d3_9 : decode method_2_code 9 = .ok (.lsub, 1) := by decide +kernel
theorem d3_10 : decode method_2_code 10 = .ok (.lmul, 1) := by decide +kernel
theorem d3_11 : decode method_2_code 11 = .ok (.lstore_n 2, 1) := by decide +kernel
theorem d3_12 : decode method_2_code 12 = .ok (.lload_n 2, 1) := by decide +kernel
theorem d3_13 : decode method_2_code 13 = .ok (.ldc2_w 7, 3) := by decide +kernel
theorem d3_16 : decode method_2_code 16 = .ok (.lload_n 0, 1) := by decide +kernel
theorem d3_17 : decode method_2_code 17 = .ok (.lload_n 2, 1) := by decide +kernel
theorem d3_18 : decode method_2_code 18 = .ok (.lmul, 1) := by decide +kernel
theorem d3_19 : decode method_2_code 19 = .ok (.lsub, 1) := by decide +kernel
theorem d3_20 : decode method_2_code 20 = .ok (.lmul, 1) := by decide +kernel
theorem d3_21 : decode method_2_code 21 = .ok (.lstore_n 2, 1) := by decide +kernel
theorem d3_22 : decode method_2_code 22 = .ok (.lload_n 2, 1) := by decide +kernel
theorem d3_23 : decode method_2_code 23 = .ok (.ldc2_w 7, 3) := by decide +kernel
theorem d3_26 : decode method_2_code 26 = .ok (.lload_n 0, 1) := by decide +kernel
theorem d3_27 : decode method_2_code 27 = .ok (.lload_n 2, 1) := by decide +kernel
theorem d3_28 : decode method_2_code 28 = .ok (.lmul, 1) := by decide +kernel
theorem d3_29 : decode method_2_code 29 = .ok (.lsub, 1) := by decide +kernel
theorem d3_30 : decode method_2_code 30 = .ok (.lmul, 1) := by decide +kernel
theorem d3_31 : decode method_2_code 31 = .ok (.lstore_n 2, 1) := by decide +kernel
theorem d3_32 : decode method_2_code 32 = .ok (.lload_n 2, 1) := by decide +kernel
theorem d3_33 : decode method_2_code 33 = .ok (.ldc2_w 7, 3) := by decide +kernel
theorem d3_36 : decode method_2_code 36 = .ok (.lload_n 0, 1) := by decide +kernel
theorem d3_37 : decode method_2_code 37 = .ok (.lload_n 2, 1) := by decide +kernel
theorem d3_38 : decode method_2_code 38 = .ok (.lmul, 1) := by decide +kernel
theorem d3_39 : decode method_2_code 39 = .ok (.lsub, 1) := by decide +kernel
theorem d3_40 : decode method_2_code 40 = .ok (.lmul, 1) := by decide +kernel
theorem d3_41 : decode method_2_code 41 = .ok (.lstore_n 2, 1) := by decide +kernel
theorem d3_42 : decode method_2_code 42 = .ok (.lload_n 2, 1) := by decide +kernel
theorem d3_43 : decode method_2_code 43 = .ok (.ldc2_w 7, 3) := by decide +kernel
theorem d3_46 : decode method_2_code 46 = .ok (.lload_n 0, 1) := by decide +kernel
theorem d3_47 : decode method_2_code 47 = .ok (.lload_n 2, 1) := by decide +kernel
theorem d3_48 : decode method_2_code 48 = .ok (.lmul, 1) := by decide +kernel
theorem d3_49 : decode method_2_code 49 = .ok (.lsub, 1) := by decide +kernel
theorem d3_50 : decode method_2_code 50 = .ok (.lmul, 1) := by decide +kernel
theorem d3_51 : decode method_2_code 51 = .ok (.lstore_n 2, 1) := by decide +kernel
theorem d3_52 : decode method_2_code 52 = .ok (.lload_n 2, 1) := by decide +kernel
theorem d3_53 : decode method_2_code 53 = .ok (.lreturn, 1) := by decide +kernel
theorem pn_3 : plainName "com/example/hearsay/hearsay/community/HashesMixPinLaw" = true := by first | (simp [plainName, overriddenIn]; done) | decide +kernel
def Q_rm3 (Z : State) (q : Int64) (h0 : Heap) (n0 : Nat) (v : Option Value) (h : Heap) (L : List Loc) : Prop := v = some (.long (own_inv q)) ∧ Fr n0 L ∧ h = h0
set_option maxRecDepth 65536 in
set_option maxHeartbeats 40000000 in
theorem rm3 (l : Launch) (Z : State) (a0 : Array Value) (hw : ∀ d ∈ tables_1, d.before a0 Z = true) (ws : List Jvm.Cond) (q : Int64) (h0 : Heap) (n0 : Nat) (Z0 : n0 ≤ h0.size)  :
    own_Met l Z h0 (⟨"com/example/hearsay/hearsay/community/HashesMixPinLaw", "inv", "(J)J"⟩ : MethodName) method_2_code 4 (some .long) ws ({ frames := 0, cells := 0, slots := 0, locals := 0 } : Room) #[(.long q)] (Q_rm3 Z q h0 n0) := by
  refine own_enter (plainFor_of_name pn_3) ?_
  intro p e s m below meth c T0 X0 hx hby hml hret hlk hown hnm hZ e0
  have N0 := Fr.nil n0
  rw [show entryFrame m #[(.long q)] 4 = (mkF m 0 #[.val (.long q), .second, .unset, .unset] []) from by first | rfl | simp [entryFrame, mkF, argsToLocals, Value.category]]
  refine own_Go.of (S' := (T0.setTop (mkF m 53 #[.val (.long q), .second, .val (.long (own_nt q (own_nt q (own_nt q (own_nt q (own_nt q q)))))), .second] [(.long (own_nt q (own_nt q (own_nt q (own_nt q (own_nt q q))))))]))) (fun t kt => ?_) ?_
  · show Steps p.tables e below (T0.setTop (mkF m 0 #[.val (.long q), .second, .unset, .unset] [])) _
    refine XS.lloadN X0.here hx rfl (hb hby d3_0) rfl ?_
    show Steps p.tables e below (T0.setTop (mkF m 1 #[.val (.long q), .second, .unset, .unset] [(.long q)])) _
    refine XS.lstoreN X0.here hx rfl (hb hby d3_1) rfl (l' := #[.val (.long q), .second, .val (.long q), .second]) rfl ?_
    show Steps p.tables e below (T0.setTop (mkF m 2 #[.val (.long q), .second, .val (.long q), .second] [])) _
    refine XS.lloadN X0.here hx rfl (hb hby d3_2) rfl ?_
    show Steps p.tables e below (T0.setTop (mkF m 3 #[.val (.long q), .second, .val (.long q), .second] [(.long q)])) _
    refine X0.ldc2Long hx hown (mvT hZ (hw _ (List.mem_of_getElem? (i := 14) rfl))) (g := (mkF m 3 #[.val (.long q), .second, .val (.long q), .second] [(.long q)])) rfl (hb hby d3_3) _ ?_
    show Steps p.tables e below (T0.setTop (mkF m 6 #[.val (.long q), .second, .val (.long q), .second] [(.long (2 : Int64)), (.long q)])) _
    refine XS.lloadN X0.here hx rfl (hb hby d3_6) rfl ?_
    show Steps p.tables e below (T0.setTop (mkF m 7 #[.val (.long q), .second, .val (.long q), .second] [(.long q), (.long (2 : Int64)), (.long q)])) _
    refine XS.lloadN X0.here hx rfl (hb hby d3_7) rfl ?_
    show Steps p.tables e below (T0.setTop (mkF m 8 #[.val (.long q), .second, .val (.long q), .second] [(.long q), (.long q), (.long (2 : Int64)), (.long q)])) _
    refine XS.lmul X0.here hx rfl (hb hby d3_8) rfl ?_
    show Steps p.tables e below (T0.setTop (mkF m 9 #[.val (.long q), .second, .val (.long q), .second] [(.long (q * q)), (.long (2 : Int64)), (.long q)])) _
    refine XS.lsub X0.here hx rfl (hb hby d3_9) rfl ?_
    show Steps p.tables e below (T0.setTop (mkF m 10 #[.val (.long q), .second, .val (.long q), .second] [(.long ((2 : Int64) - (q * q))), (.long q)])) _
    refine XS.lmul X0.here hx rfl (hb hby d3_10) rfl ?_
    show Steps p.tables e below (T0.setTop (mkF m 11 #[.val (.long q), .second, .val (.long q), .second] [(.long (own_nt q q))])) _
    refine XS.lstoreN X0.here hx rfl (hb hby d3_11) rfl (l' := #[.val (.long q), .second, .val (.long (own_nt q q)), .second]) rfl ?_
    show Steps p.tables e below (T0.setTop (mkF m 12 #[.val (.long q), .second, .val (.long (own_nt q q)), .second] [])) _
    refine XS.lloadN X0.here hx rfl (hb hby d3_12) rfl ?_
    show Steps p.tables e below (T0.setTop (mkF m 13 #[.val (.long q), .second, .val (.long (own_nt q q)), .second] [(.long (own_nt q q))])) _
    refine X0.ldc2Long hx hown (mvT hZ (hw _ (List.mem_of_getElem? (i := 14) rfl))) (g := (mkF m 13 #[.val (.long q), .second, .val (.long (own_nt q q)), .second] [(.long (own_nt q q))])) rfl (hb hby d3_13) _ ?_
    show Steps p.tables e below (T0.setTop (mkF m 16 #[.val (.long q), .second, .val (.long (own_nt q q)), .second] [(.long (2 : Int64)), (.long (own_nt q q))])) _
    refine XS.lloadN X0.here hx rfl (hb hby d3_16) rfl ?_
    show Steps p.tables e below (T0.setTop (mkF m 17 #[.val (.long q), .second, .val (.long (own_nt q q)), .second] [(.long q), (.long (2 : Int64)), (.long (own_nt q q))])) _
    refine XS.lloadN X0.here hx rfl (hb hby d3_17) rfl ?_
    show Steps p.tables e below (T0.setTop (mkF m 18 #[.val (.long q), .second, .val (.long (own_nt q q)), .second] [(.long (own_nt q q)), (.long q), (.long (2 : Int64)), (.long (own_nt q q))])) _
    refine XS.lmul X0.here hx rfl (hb hby d3_18) rfl ?_
    show Steps p.tables e below (T0.setTop (mkF m 19 #[.val (.long q), .second, .val (.long (own_nt q q)), .second] [(.long (q * (own_nt q q))), (.long (2 : Int64)), (.long (own_nt q q))])) _
    refine XS.lsub X0.here hx rfl (hb hby d3_19) rfl ?_
    show Steps p.tables e below (T0.setTop (mkF m 20 #[.val (.long q), .second, .val (.long (own_nt q q)), .second] [(.long ((2 : Int64) - (q * (own_nt q q)))), (.long (own_nt q q))])) _
    refine XS.lmul X0.here hx rfl (hb hby d3_20) rfl ?_
    show Steps p.tables e below (T0.setTop (mkF m 21 #[.val (.long q), .second, .val (.long (own_nt q q)), .second] [(.long (own_nt q (own_nt q q)))])) _
    refine XS.lstoreN X0.here hx rfl (hb hby d3_21) rfl (l' := #[.val (.long q), .second, .val (.long (own_nt q (own_nt q q))), .second]) rfl ?_
    show Steps p.tables e below (T0.setTop (mkF m 22 #[.val (.long q), .second, .val (.long (own_nt q (own_nt q q))), .second] [])) _
    refine XS.lloadN X0.here hx rfl (hb hby d3_22) rfl ?_
    show Steps p.tables e below (T0.setTop (mkF m 23 #[.val (.long q), .second, .val (.long (own_nt q (own_nt q q))), .second] [(.long (own_nt q (own_nt q q)))])) _
    refine X0.ldc2Long hx hown (mvT hZ (hw _ (List.mem_of_getElem? (i := 14) rfl))) (g := (mkF m 23 #[.val (.long q), .second, .val (.long (own_nt q (own_nt q q))), .second] [(.long (own_nt q (own_nt q q)))])) rfl (hb hby d3_23) _ ?_
    show Steps p.tables e below (T0.setTop (mkF m 26 #[.val (.long q), .second, .val (.long (own_nt q (own_nt q q))), .second] [(.long (2 : Int64)), (.long (own_nt q (own_nt q q)))])) _
    refine XS.lloadN X0.here hx rfl (hb hby d3_26) rfl ?_
    show Steps p.tables e below (T0.setTop (mkF m 27 #[.val (.long q), .second, .val (.long (own_nt q (own_nt q q))), .second] [(.long q), (.long (2 : Int64)), (.long (own_nt q (own_nt q q)))])) _
    refine XS.lloadN X0.here hx rfl (hb hby d3_27) rfl ?_
    show Steps p.tables e below (T0.setTop (mkF m 28 #[.val (.long q), .second, .val (.long (own_nt q (own_nt q q))), .second] [(.long (own_nt q (own_nt q q))), (.long q), (.long (2 : Int64)), (.long (own_nt q (own_nt q q)))])) _
    refine XS.lmul X0.here hx rfl (hb hby d3_28) rfl ?_
    show Steps p.tables e below (T0.setTop (mkF m 29 #[.val (.long q), .second, .val (.long (own_nt q (own_nt q q))), .second] [(.long (q * (own_nt q (own_nt q q)))), (.long (2 : Int64)), (.long (own_nt q (own_nt q q)))])) _
    refine XS.lsub X0.here hx rfl (hb hby d3_29) rfl ?_
    show Steps p.tables e below (T0.setTop (mkF m 30 #[.val (.long q), .second, .val (.long (own_nt q (own_nt q q))), .second] [(.long ((2 : Int64) - (q * (own_nt q (own_nt q q))))), (.long (own_nt q (own_nt q q)))])) _
    refine XS.lmul X0.here hx rfl (hb hby d3_30) rfl ?_
    show Steps p.tables e below (T0.setTop (mkF m 31 #[.val (.long q), .second, .val (.long (own_nt q (own_nt q q))), .second] [(.long (own_nt q (own_nt q (own_nt q q))))])) _
    refine XS.lstoreN X0.here hx rfl (hb hby d3_31) rfl (l' := #[.val (.long q), .second, .val (.long (own_nt q (own_nt q (own_nt q q)))), .second]) rfl ?_
    show Steps p.tables e below (T0.setTop (mkF m 32 #[.val (.long q), .second, .val (.long (own_nt q (own_nt q (own_nt q q)))), .second] [])) _
    refine XS.lloadN X0.here hx rfl (hb hby d3_32) rfl ?_
    show Steps p.tables e below (T0.setTop (mkF m 33 #[.val (.long q), .second, .val (.long (own_nt q (own_nt q (own_nt q q)))), .second] [(.long (own_nt q (own_nt q (own_nt q q))))])) _
    refine X0.ldc2Long hx hown (mvT hZ (hw _ (List.mem_of_getElem? (i := 14) rfl))) (g := (mkF m 33 #[.val (.long q), .second, .val (.long (own_nt q (own_nt q (own_nt q q)))), .second] [(.long (own_nt q (own_nt q (own_nt q q))))])) rfl (hb hby d3_33) _ ?_
    show Steps p.tables e below (T0.setTop (mkF m 36 #[.val (.long q), .second, .val (.long (own_nt q (own_nt q (own_nt q q)))), .second] [(.long (2 : Int64)), (.long (own_nt q (own_nt q (own_nt q q))))])) _
    refine XS.lloadN X0.here hx rfl (hb hby d3_36) rfl ?_
    show Steps p.tables e below (T0.setTop (mkF m 37 #[.val (.long q), .second, .val (.long (own_nt q (own_nt q (own_nt q q)))), .second] [(.long q), (.long (2 : Int64)), (.long (own_nt q (own_nt q (own_nt q q))))])) _
    refine XS.lloadN X0.here hx rfl (hb hby d3_37) rfl ?_
    show Steps p.tables e below (T0.setTop (mkF m 38 #[.val (.long q), .second, .val (.long (own_nt q (own_nt q (own_nt q q)))), .second] [(.long (own_nt q (own_nt q (own_nt q q)))), (.long q), (.long (2 : Int64)), (.long (own_nt q (own_nt q (own_nt q q))))])) _
    refine XS.lmul X0.here hx rfl (hb hby d3_38) rfl ?_
    show Steps p.tables e below (T0.setTop (mkF m 39 #[.val (.long q), .second, .val (.long (own_nt q (own_nt q (own_nt q q)))), .second] [(.long (q * (own_nt q (own_nt q (own_nt q q))))), (.long (2 : Int64)), (.long (own_nt q (own_nt q (own_nt q q))))])) _
    refine XS.lsub X0.here hx rfl (hb hby d3_39) rfl ?_
    show Steps p.tables e below (T0.setTop (mkF m 40 #[.val (.long q), .second, .val (.long (own_nt q (own_nt q (own_nt q q)))), .second] [(.long ((2 : Int64) - (q * (own_nt q (own_nt q (own_nt q q)))))), (.long (own_nt q (own_nt q (own_nt q q))))])) _
    refine XS.lmul X0.here hx rfl (hb hby d3_40) rfl ?_
    show Steps p.tables e below (T0.setTop (mkF m 41 #[.val (.long q), .second, .val (.long (own_nt q (own_nt q (own_nt q q)))), .second] [(.long (own_nt q (own_nt q (own_nt q (own_nt q q)))))])) _
    refine XS.lstoreN X0.here hx rfl (hb hby d3_41) rfl (l' := #[.val (.long q), .second, .val (.long (own_nt q (own_nt q (own_nt q (own_nt q q))))), .second]) rfl ?_
    show Steps p.tables e below (T0.setTop (mkF m 42 #[.val (.long q), .second, .val (.long (own_nt q (own_nt q (own_nt q (own_nt q q))))), .second] [])) _
    refine XS.lloadN X0.here hx rfl (hb hby d3_42) rfl ?_
    show Steps p.tables e below (T0.setTop (mkF m 43 #[.val (.long q), .second, .val (.long (own_nt q (own_nt q (own_nt q (own_nt q q))))), .second] [(.long (own_nt q (own_nt q (own_nt q (own_nt q q)))))])) _
    refine X0.ldc2Long hx hown (mvT hZ (hw _ (List.mem_of_getElem? (i := 14) rfl))) (g := (mkF m 43 #[.val (.long q), .second, .val (.long (own_nt q (own_nt q (own_nt q (own_nt q q))))), .second] [(.long (own_nt q (own_nt q (own_nt q (own_nt q q)))))])) rfl (hb hby d3_43) _ ?_
    show Steps p.tables e below (T0.setTop (mkF m 46 #[.val (.long q), .second, .val (.long (own_nt q (own_nt q (own_nt q (own_nt q q))))), .second] [(.long (2 : Int64)), (.long (own_nt q (own_nt q (own_nt q (own_nt q q)))))])) _
    refine XS.lloadN X0.here hx rfl (hb hby d3_46) rfl ?_
    show Steps p.tables e below (T0.setTop (mkF m 47 #[.val (.long q), .second, .val (.long (own_nt q (own_nt q (own_nt q (own_nt q q))))), .second] [(.long q), (.long (2 : Int64)), (.long (own_nt q (own_nt q (own_nt q (own_nt q q)))))])) _
    refine XS.lloadN X0.here hx rfl (hb hby d3_47) rfl ?_
    show Steps p.tables e below (T0.setTop (mkF m 48 #[.val (.long q), .second, .val (.long (own_nt q (own_nt q (own_nt q (own_nt q q))))), .second] [(.long (own_nt q (own_nt q (own_nt q (own_nt q q))))), (.long q), (.long (2 : Int64)), (.long (own_nt q (own_nt q (own_nt q (own_nt q q)))))])) _
    refine XS.lmul X0.here hx rfl (hb hby d3_48) rfl ?_
    show Steps p.tables e below (T0.setTop (mkF m 49 #[.val (.long q), .second, .val (.long (own_nt q (own_nt q (own_nt q (own_nt q q))))), .second] [(.long (q * (own_nt q (own_nt q (own_nt q (own_nt q q)))))), (.long (2 : Int64)), (.long (own_nt q (own_nt q (own_nt q (own_nt q q)))))])) _
    refine XS.lsub X0.here hx rfl (hb hby d3_49) rfl ?_
    show Steps p.tables e below (T0.setTop (mkF m 50 #[.val (.long q), .second, .val (.long (own_nt q (own_nt q (own_nt q (own_nt q q))))), .second] [(.long ((2 : Int64) - (q * (own_nt q (own_nt q (own_nt q (own_nt q q))))))), (.long (own_nt q (own_nt q (own_nt q (own_nt q q)))))])) _
    refine XS.lmul X0.here hx rfl (hb hby d3_50) rfl ?_
    show Steps p.tables e below (T0.setTop (mkF m 51 #[.val (.long q), .second, .val (.long (own_nt q (own_nt q (own_nt q (own_nt q q))))), .second] [(.long (own_nt q (own_nt q (own_nt q (own_nt q (own_nt q q))))))])) _
    refine XS.lstoreN X0.here hx rfl (hb hby d3_51) rfl (l' := #[.val (.long q), .second, .val (.long (own_nt q (own_nt q (own_nt q (own_nt q (own_nt q q)))))), .second]) rfl ?_
    show Steps p.tables e below (T0.setTop (mkF m 52 #[.val (.long q), .second, .val (.long (own_nt q (own_nt q (own_nt q (own_nt q (own_nt q q)))))), .second] [])) _
    refine XS.lloadN X0.here hx rfl (hb hby d3_52) rfl ?_
    exact kt
  exact own_retJ X0 hx hlk hret (hb hby d3_53) e0 ⟨rfl, N0, rfl⟩ (by decide) (by decide)
theorem d1_0 : decode prog_15_method_3_code 0 = .ok (.lload_n 0, 1) := by decide +kernel
theorem d1_1 : decode prog_15_method_3_code 1 = .ok (.lload_n 0, 1) := by decide +kernel
theorem d1_2 : decode prog_15_method_3_code 2 = .ok (.bipush 30, 2) := by decide +kernel
theorem d1_4 : decode prog_15_method_3_code 4 = .ok (.lushr, 1) := by decide +kernel
theorem d1_5 : decode prog_15_method_3_code 5 = .ok (.lxor, 1) := by decide +kernel
theorem d1_6 : decode prog_15_method_3_code 6 = .ok (.ldc2_w 37, 3) := by decide +kernel
theorem d1_9 : decode prog_15_method_3_code 9 = .ok (.lmul, 1) := by decide +kernel
theorem d1_10 : decode prog_15_method_3_code 10 = .ok (.lstore_n 2, 1) := by decide +kernel
theorem d1_11 : decode prog_15_method_3_code 11 = .ok (.lload_n 2, 1) := by decide +kernel
theorem d1_12 : decode prog_15_method_3_code 12 = .ok (.lload_n 2, 1) := by decide +kernel
theorem d1_13 : decode prog_15_method_3_code 13 = .ok (.bipush 27, 2) := by decide +kernel
theorem d1_15 : decode prog_15_method_3_code 15 = .ok (.lushr, 1) := by decide +kernel
theorem d1_16 : decode prog_15_method_3_code 16 = .ok (.lxor, 1) := by decide +kernel
theorem d1_17 : decode prog_15_method_3_code 17 = .ok (.ldc2_w 39, 3) := by decide +kernel
theorem d1_20 : decode prog_15_method_3_code 20 = .ok (.lmul, 1) := by decide +kernel
theorem d1_21 : decode prog_15_method_3_code 21 = .ok (.lstore_n 2, 1) := by decide +kernel
theorem d1_22 : decode prog_15_method_3_code 22 = .ok (.lload_n 2, 1) := by decide +kernel
theorem d1_23 : decode prog_15_method_3_code 23 = .ok (.lload_n 2, 1) := by decide +kernel
theorem d1_24 : decode prog_15_method_3_code 24 = .ok (.bipush 31, 2) := by decide +kernel
theorem d1_26 : decode prog_15_method_3_code 26 = .ok (.lushr, 1) := by decide +kernel
theorem d1_27 : decode prog_15_method_3_code 27 = .ok (.lxor, 1) := by decide +kernel
theorem d1_28 : decode prog_15_method_3_code 28 = .ok (.lreturn, 1) := by decide +kernel
theorem pn_1 : plainName "com/example/hearsay/hearsay/community/Hashes" = true := by first | (simp [plainName, overriddenIn]; done) | decide +kernel
def Q_rm1 (Z : State) (q : Int64) (h0 : Heap) (n0 : Nat) (v : Option Value) (h : Heap) (L : List Loc) : Prop := v = some (.long (own_mix q)) ∧ Fr n0 L ∧ h = h0
set_option maxRecDepth 65536 in
set_option maxHeartbeats 40000000 in
theorem rm1 (l : Launch) (Z : State) (a0 : Array Value) (hw : ∀ d ∈ tables_1, d.before a0 Z = true) (ws : List Jvm.Cond) (q : Int64) (h0 : Heap) (n0 : Nat) (Z0 : n0 ≤ h0.size)  :
    own_Met l Z h0 (⟨"com/example/hearsay/hearsay/community/Hashes", "mix", "(J)J"⟩ : MethodName) prog_15_method_3_code 4 (some .long) ws ({ frames := 0, cells := 0, slots := 0, locals := 0 } : Room) #[(.long q)] (Q_rm1 Z q h0 n0) := by
  refine own_enter (plainFor_of_name pn_1) ?_
  intro p e s m below meth c T0 X0 hx hby hml hret hlk hown hnm hZ e0
  have N0 := Fr.nil n0
  rw [show entryFrame m #[(.long q)] 4 = (mkF m 0 #[.val (.long q), .second, .unset, .unset] []) from by first | rfl | simp [entryFrame, mkF, argsToLocals, Value.category]]
  refine own_Go.of (S' := (T0.setTop (mkF m 28 #[.val (.long q), .second, .val (.long (own_m2 (own_m1 q))), .second] [(.long (own_m3 (own_m2 (own_m1 q))))]))) (fun t kt => ?_) ?_
  · show Steps p.tables e below (T0.setTop (mkF m 0 #[.val (.long q), .second, .unset, .unset] [])) _
    refine XS.lloadN X0.here hx rfl (hb hby d1_0) rfl ?_
    show Steps p.tables e below (T0.setTop (mkF m 1 #[.val (.long q), .second, .unset, .unset] [(.long q)])) _
    refine XS.lloadN X0.here hx rfl (hb hby d1_1) rfl ?_
    show Steps p.tables e below (T0.setTop (mkF m 2 #[.val (.long q), .second, .unset, .unset] [(.long q), (.long q)])) _
    refine XS.bipush X0.here hx rfl (hb hby d1_2) ?_
    show Steps p.tables e below (T0.setTop (mkF m 4 #[.val (.long q), .second, .unset, .unset] [(.int (30 : Int32)), (.long q), (.long q)])) _
    refine XS.lushr X0.here hx rfl (hb hby d1_4) rfl ?_
    show Steps p.tables e below (T0.setTop (mkF m 5 #[.val (.long q), .second, .unset, .unset] [(.long ((q.toUInt64 >>> ((30 : Int32) &&& 0x3f).toInt64.toUInt64).toInt64)), (.long q)])) _
    refine XS.lxor X0.here hx rfl (hb hby d1_5) rfl ?_
    show Steps p.tables e below (T0.setTop (mkF m 6 #[.val (.long q), .second, .unset, .unset] [(.long (q ^^^ ((q.toUInt64 >>> ((30 : Int32) &&& 0x3f).toInt64.toUInt64).toInt64)))])) _
    refine X0.ldc2Long hx hown (mvT hZ (hw _ (List.mem_of_getElem? (i := 4) rfl))) (g := (mkF m 6 #[.val (.long q), .second, .unset, .unset] [(.long (q ^^^ ((q.toUInt64 >>> ((30 : Int32) &&& 0x3f).toInt64.toUInt64).toInt64)))])) rfl (hb hby d1_6) _ ?_
    show Steps p.tables e below (T0.setTop (mkF m 9 #[.val (.long q), .second, .unset, .unset] [(.long (-4658895280553007687 : Int64)), (.long (q ^^^ ((q.toUInt64 >>> ((30 : Int32) &&& 0x3f).toInt64.toUInt64).toInt64)))])) _
    refine XS.lmul X0.here hx rfl (hb hby d1_9) rfl ?_
    show Steps p.tables e below (T0.setTop (mkF m 10 #[.val (.long q), .second, .unset, .unset] [(.long (own_m1 q))])) _
    refine XS.lstoreN X0.here hx rfl (hb hby d1_10) rfl (l' := #[.val (.long q), .second, .val (.long (own_m1 q)), .second]) rfl ?_
    show Steps p.tables e below (T0.setTop (mkF m 11 #[.val (.long q), .second, .val (.long (own_m1 q)), .second] [])) _
    refine XS.lloadN X0.here hx rfl (hb hby d1_11) rfl ?_
    show Steps p.tables e below (T0.setTop (mkF m 12 #[.val (.long q), .second, .val (.long (own_m1 q)), .second] [(.long (own_m1 q))])) _
    refine XS.lloadN X0.here hx rfl (hb hby d1_12) rfl ?_
    show Steps p.tables e below (T0.setTop (mkF m 13 #[.val (.long q), .second, .val (.long (own_m1 q)), .second] [(.long (own_m1 q)), (.long (own_m1 q))])) _
    refine XS.bipush X0.here hx rfl (hb hby d1_13) ?_
    show Steps p.tables e below (T0.setTop (mkF m 15 #[.val (.long q), .second, .val (.long (own_m1 q)), .second] [(.int (27 : Int32)), (.long (own_m1 q)), (.long (own_m1 q))])) _
    refine XS.lushr X0.here hx rfl (hb hby d1_15) rfl ?_
    show Steps p.tables e below (T0.setTop (mkF m 16 #[.val (.long q), .second, .val (.long (own_m1 q)), .second] [(.long (((own_m1 q).toUInt64 >>> ((27 : Int32) &&& 0x3f).toInt64.toUInt64).toInt64)), (.long (own_m1 q))])) _
    refine XS.lxor X0.here hx rfl (hb hby d1_16) rfl ?_
    show Steps p.tables e below (T0.setTop (mkF m 17 #[.val (.long q), .second, .val (.long (own_m1 q)), .second] [(.long ((own_m1 q) ^^^ (((own_m1 q).toUInt64 >>> ((27 : Int32) &&& 0x3f).toInt64.toUInt64).toInt64)))])) _
    refine X0.ldc2Long hx hown (mvT hZ (hw _ (List.mem_of_getElem? (i := 5) rfl))) (g := (mkF m 17 #[.val (.long q), .second, .val (.long (own_m1 q)), .second] [(.long ((own_m1 q) ^^^ (((own_m1 q).toUInt64 >>> ((27 : Int32) &&& 0x3f).toInt64.toUInt64).toInt64)))])) rfl (hb hby d1_17) _ ?_
    show Steps p.tables e below (T0.setTop (mkF m 20 #[.val (.long q), .second, .val (.long (own_m1 q)), .second] [(.long (-7723592293110705685 : Int64)), (.long ((own_m1 q) ^^^ (((own_m1 q).toUInt64 >>> ((27 : Int32) &&& 0x3f).toInt64.toUInt64).toInt64)))])) _
    refine XS.lmul X0.here hx rfl (hb hby d1_20) rfl ?_
    show Steps p.tables e below (T0.setTop (mkF m 21 #[.val (.long q), .second, .val (.long (own_m1 q)), .second] [(.long (own_m2 (own_m1 q)))])) _
    refine XS.lstoreN X0.here hx rfl (hb hby d1_21) rfl (l' := #[.val (.long q), .second, .val (.long (own_m2 (own_m1 q))), .second]) rfl ?_
    show Steps p.tables e below (T0.setTop (mkF m 22 #[.val (.long q), .second, .val (.long (own_m2 (own_m1 q))), .second] [])) _
    refine XS.lloadN X0.here hx rfl (hb hby d1_22) rfl ?_
    show Steps p.tables e below (T0.setTop (mkF m 23 #[.val (.long q), .second, .val (.long (own_m2 (own_m1 q))), .second] [(.long (own_m2 (own_m1 q)))])) _
    refine XS.lloadN X0.here hx rfl (hb hby d1_23) rfl ?_
    show Steps p.tables e below (T0.setTop (mkF m 24 #[.val (.long q), .second, .val (.long (own_m2 (own_m1 q))), .second] [(.long (own_m2 (own_m1 q))), (.long (own_m2 (own_m1 q)))])) _
    refine XS.bipush X0.here hx rfl (hb hby d1_24) ?_
    show Steps p.tables e below (T0.setTop (mkF m 26 #[.val (.long q), .second, .val (.long (own_m2 (own_m1 q))), .second] [(.int (31 : Int32)), (.long (own_m2 (own_m1 q))), (.long (own_m2 (own_m1 q)))])) _
    refine XS.lushr X0.here hx rfl (hb hby d1_26) rfl ?_
    show Steps p.tables e below (T0.setTop (mkF m 27 #[.val (.long q), .second, .val (.long (own_m2 (own_m1 q))), .second] [(.long (((own_m2 (own_m1 q)).toUInt64 >>> ((31 : Int32) &&& 0x3f).toInt64.toUInt64).toInt64)), (.long (own_m2 (own_m1 q)))])) _
    refine XS.lxor X0.here hx rfl (hb hby d1_27) rfl ?_
    exact kt
  exact own_retJ X0 hx hlk hret (hb hby d1_28) e0 ⟨rfl, N0, rfl⟩ (by decide) (by decide)
theorem d2_0 : decode method_3_code 0 = .ok (.lload_n 0, 1) := by decide +kernel
theorem d2_1 : decode method_3_code 1 = .ok (.lload_n 0, 1) := by decide +kernel
theorem d2_2 : decode method_3_code 2 = .ok (.bipush 31, 2) := by decide +kernel
theorem d2_4 : decode method_3_code 4 = .ok (.lushr, 1) := by decide +kernel
theorem d2_5 : decode method_3_code 5 = .ok (.lxor, 1) := by decide +kernel
theorem d2_6 : decode method_3_code 6 = .ok (.lload_n 0, 1) := by decide +kernel
theorem d2_7 : decode method_3_code 7 = .ok (.bipush 62, 2) := by decide +kernel
theorem d2_9 : decode method_3_code 9 = .ok (.lushr, 1) := by decide +kernel
theorem d2_10 : decode method_3_code 10 = .ok (.lxor, 1) := by decide +kernel
theorem d2_11 : decode method_3_code 11 = .ok (.lstore_n 2, 1) := by decide +kernel
theorem d2_12 : decode method_3_code 12 = .ok (.lload_n 2, 1) := by decide +kernel
theorem d2_13 : decode method_3_code 13 = .ok (.ldc2_w 9, 3) := by decide +kernel
theorem d2_16 : decode method_3_code 16 = .ok (.invokestatic 11, 3) := by decide +kernel
theorem d2_19 : decode method_3_code 19 = .ok (.lmul, 1) := by decide +kernel
theorem d2_20 : decode method_3_code 20 = .ok (.lstore 4, 2) := by decide +kernel
theorem d2_22 : decode method_3_code 22 = .ok (.lload 4, 2) := by decide +kernel
theorem d2_24 : decode method_3_code 24 = .ok (.lload 4, 2) := by decide +kernel
theorem d2_26 : decode method_3_code 26 = .ok (.bipush 27, 2) := by decide +kernel
theorem d2_28 : decode method_3_code 28 = .ok (.lushr, 1) := by decide +kernel
theorem d2_29 : decode method_3_code 29 = .ok (.lxor, 1) := by decide +kernel
theorem d2_30 : decode method_3_code 30 = .ok (.lload 4, 2) := by decide +kernel
theorem d2_32 : decode method_3_code 32 = .ok (.bipush 54, 2) := by decide +kernel
theorem d2_34 : decode method_3_code 34 = .ok (.lushr, 1) := by decide +kernel
theorem d2_35 : decode method_3_code 35 = .ok (.lxor, 1) := by decide +kernel
theorem d2_36 : decode method_3_code 36 = .ok (.lstore 6, 2) := by decide +kernel
theorem d2_38 : decode method_3_code 38 = .ok (.lload 6, 2) := by decide +kernel
theorem d2_40 : decode method_3_code 40 = .ok (.ldc2_w 17, 3) := by decide +kernel
theorem d2_43 : decode method_3_code 43 = .ok (.invokestatic 11, 3) := by decide +kernel
theorem d2_46 : decode method_3_code 46 = .ok (.lmul, 1) := by decide +kernel
theorem d2_47 : decode method_3_code 47 = .ok (.lstore 8, 2) := by decide +kernel
theorem d2_49 : decode method_3_code 49 = .ok (.lload 8, 2) := by decide +kernel
theorem d2_51 : decode method_3_code 51 = .ok (.lload 8, 2) := by decide +kernel
theorem d2_53 : decode method_3_code 53 = .ok (.bipush 30, 2) := by decide +kernel
theorem d2_55 : decode method_3_code 55 = .ok (.lushr, 1) := by decide +kernel
theorem d2_56 : decode method_3_code 56 = .ok (.lxor, 1) := by decide +kernel
theorem d2_57 : decode method_3_code 57 = .ok (.lload 8, 2) := by decide +kernel
theorem d2_59 : decode method_3_code 59 = .ok (.bipush 60, 2) := by decide +kernel
theorem d2_61 : decode method_3_code 61 = .ok (.lushr, 1) := by decide +kernel
theorem d2_62 : decode method_3_code 62 = .ok (.lxor, 1) := by decide +kernel
theorem d2_63 : decode method_3_code 63 = .ok (.lreturn, 1) := by decide +kernel
theorem pn_2 : plainName "com/example/hearsay/hearsay/community/HashesMixPinLaw" = true := by first | (simp [plainName, overriddenIn]; done) | decide +kernel
theorem pd_0 : parseMethodDescriptor "(J)J" = some ⟨[.long], some .long⟩ := by decide +kernel
def Q_rm2 (Z : State) (q : Int64) (h0 : Heap) (n0 : Nat) (v : Option Value) (h : Heap) (L : List Loc) : Prop := v = some (.long (own_unmix q)) ∧ Fr n0 L ∧ h = h0
set_option maxRecDepth 65536 in
set_option maxHeartbeats 40000000 in
theorem rm2 (l : Launch) (Z : State) (a0 : Array Value) (hw : ∀ d ∈ tables_1, d.before a0 Z = true) (ws : List Jvm.Cond) (q : Int64) (h0 : Heap) (n0 : Nat) (Z0 : n0 ≤ h0.size)  :
    own_Met l Z h0 (⟨"com/example/hearsay/hearsay/community/HashesMixPinLaw", "unmix", "(J)J"⟩ : MethodName) method_3_code 10 (some .long) ws ({ frames := 1, cells := 0, slots := 0, locals := 17 } : Room) #[(.long q)] (Q_rm2 Z q h0 n0) := by
  refine own_enter (plainFor_of_name pn_2) ?_
  intro p e s m below meth c T0 X0 hx hby hml hret hlk hown hnm hZ e0
  have N0 := Fr.nil n0
  rw [show entryFrame m #[(.long q)] 10 = (mkF m 0 #[.val (.long q), .second, .unset, .unset, .unset, .unset, .unset, .unset, .unset, .unset] []) from by first | rfl | simp [entryFrame, mkF, argsToLocals, Value.category]]
  refine own_Go.of (S' := (T0.setTop (mkF m 16 #[.val (.long q), .second, .val (.long (own_u3 q)), .second, .unset, .unset, .unset, .unset, .unset, .unset] [(.long (-7723592293110705685 : Int64)), (.long (own_u3 q))]))) (fun t kt => ?_) ?_
  · show Steps p.tables e below (T0.setTop (mkF m 0 #[.val (.long q), .second, .unset, .unset, .unset, .unset, .unset, .unset, .unset, .unset] [])) _
    refine XS.lloadN X0.here hx rfl (hb hby d2_0) rfl ?_
    show Steps p.tables e below (T0.setTop (mkF m 1 #[.val (.long q), .second, .unset, .unset, .unset, .unset, .unset, .unset, .unset, .unset] [(.long q)])) _
    refine XS.lloadN X0.here hx rfl (hb hby d2_1) rfl ?_
    show Steps p.tables e below (T0.setTop (mkF m 2 #[.val (.long q), .second, .unset, .unset, .unset, .unset, .unset, .unset, .unset, .unset] [(.long q), (.long q)])) _
    refine XS.bipush X0.here hx rfl (hb hby d2_2) ?_
    show Steps p.tables e below (T0.setTop (mkF m 4 #[.val (.long q), .second, .unset, .unset, .unset, .unset, .unset, .unset, .unset, .unset] [(.int (31 : Int32)), (.long q), (.long q)])) _
    refine XS.lushr X0.here hx rfl (hb hby d2_4) rfl ?_
    show Steps p.tables e below (T0.setTop (mkF m 5 #[.val (.long q), .second, .unset, .unset, .unset, .unset, .unset, .unset, .unset, .unset] [(.long ((q.toUInt64 >>> ((31 : Int32) &&& 0x3f).toInt64.toUInt64).toInt64)), (.long q)])) _
    refine XS.lxor X0.here hx rfl (hb hby d2_5) rfl ?_
    show Steps p.tables e below (T0.setTop (mkF m 6 #[.val (.long q), .second, .unset, .unset, .unset, .unset, .unset, .unset, .unset, .unset] [(.long (q ^^^ ((q.toUInt64 >>> ((31 : Int32) &&& 0x3f).toInt64.toUInt64).toInt64)))])) _
    refine XS.lloadN X0.here hx rfl (hb hby d2_6) rfl ?_
    show Steps p.tables e below (T0.setTop (mkF m 7 #[.val (.long q), .second, .unset, .unset, .unset, .unset, .unset, .unset, .unset, .unset] [(.long q), (.long (q ^^^ ((q.toUInt64 >>> ((31 : Int32) &&& 0x3f).toInt64.toUInt64).toInt64)))])) _
    refine XS.bipush X0.here hx rfl (hb hby d2_7) ?_
    show Steps p.tables e below (T0.setTop (mkF m 9 #[.val (.long q), .second, .unset, .unset, .unset, .unset, .unset, .unset, .unset, .unset] [(.int (62 : Int32)), (.long q), (.long (q ^^^ ((q.toUInt64 >>> ((31 : Int32) &&& 0x3f).toInt64.toUInt64).toInt64)))])) _
    refine XS.lushr X0.here hx rfl (hb hby d2_9) rfl ?_
    show Steps p.tables e below (T0.setTop (mkF m 10 #[.val (.long q), .second, .unset, .unset, .unset, .unset, .unset, .unset, .unset, .unset] [(.long ((q.toUInt64 >>> ((62 : Int32) &&& 0x3f).toInt64.toUInt64).toInt64)), (.long (q ^^^ ((q.toUInt64 >>> ((31 : Int32) &&& 0x3f).toInt64.toUInt64).toInt64)))])) _
    refine XS.lxor X0.here hx rfl (hb hby d2_10) rfl ?_
    show Steps p.tables e below (T0.setTop (mkF m 11 #[.val (.long q), .second, .unset, .unset, .unset, .unset, .unset, .unset, .unset, .unset] [(.long (own_u3 q))])) _
    refine XS.lstoreN X0.here hx rfl (hb hby d2_11) rfl (l' := #[.val (.long q), .second, .val (.long (own_u3 q)), .second, .unset, .unset, .unset, .unset, .unset, .unset]) rfl ?_
    show Steps p.tables e below (T0.setTop (mkF m 12 #[.val (.long q), .second, .val (.long (own_u3 q)), .second, .unset, .unset, .unset, .unset, .unset, .unset] [])) _
    refine XS.lloadN X0.here hx rfl (hb hby d2_12) rfl ?_
    show Steps p.tables e below (T0.setTop (mkF m 13 #[.val (.long q), .second, .val (.long (own_u3 q)), .second, .unset, .unset, .unset, .unset, .unset, .unset] [(.long (own_u3 q))])) _
    refine X0.ldc2Long hx hown (mvT hZ (hw _ (List.mem_of_getElem? (i := 10) rfl))) (g := (mkF m 13 #[.val (.long q), .second, .val (.long (own_u3 q)), .second, .unset, .unset, .unset, .unset, .unset, .unset] [(.long (own_u3 q))])) rfl (hb hby d2_13) _ ?_
    exact kt
  obtain ⟨_, _, ⟨T1, L1, k1, n1⟩, -, X1, ⟨Lc1, hQ1, l1, y1, z1⟩, st1⟩ := Jvm.LawKit.callS X0 hx (y := (⟨"com/example/hearsay/hearsay/community/HashesMixPinLaw", "inv", "(J)J"⟩ : MethodName)) hown (mvT hZ (hw _ (List.mem_of_getElem? (i := 11) rfl))) (mvT hZ (hw _ (List.mem_of_getElem? (i := 12) rfl))) (mvT hZ (hw _ (List.mem_of_getElem? (i := 8) rfl))) (mvT hZ (hw _ (List.mem_of_getElem? (i := 13) rfl))) (by decide) (backOf (W := 2) (rm3 l Z a0 hw [] (-7723592293110705685 : Int64) h0 n0 Z0 ) hZ (hw _ (List.mem_of_getElem? (i := 13) rfl)) (hw _ (List.mem_of_getElem? (i := 8) rfl)) (by decide) (by decide)) (g := (mkF m 16 #[.val (.long q), .second, .val (.long (own_u3 q)), .second, .unset, .unset, .unset, .unset, .unset, .unset] [(.long (-7723592293110705685 : Int64)), (.long (own_u3 q))])) rfl (by rw [hml]; rfl) (argsL := [(.long (-7723592293110705685 : Int64))]) (rest := [(.long (own_u3 q))]) (lenOf pd_0 rfl) rfl (by show 2 * 0 + _ ≤ _; exact Nat.le_of_eq rfl) (hb hby d2_16) (fun _ _ => ⟨rfl, e0, (by decide : 0 + 0 ≤ _), (by decide : 0 + 0 ≤ _)⟩)
  dsimp only [Pt.U, Pt.locs, Pt.cells, Pt.slots] at X1 l1 y1 z1 st1 hQ1
  subst l1 y1 z1
  obtain ⟨rfl, N1q, hh1⟩ := hQ1
  have N1 := Fr.app N0 N1q
  refine own_Go.of (S' := (T1.setTop (mkF m 19 #[.val (.long q), .second, .val (.long (own_u3 q)), .second, .unset, .unset, .unset, .unset, .unset, .unset] [(.long (own_inv (-7723592293110705685 : Int64))), (.long (own_u3 q))]))) (fun t kt => st1 t kt) ?_
  refine own_Go.of (S' := (T1.setTop (mkF m 43 #[.val (.long q), .second, .val (.long (own_u3 q)), .second, .val (.long (own_u3 q * own_inv (-7723592293110705685 : Int64))), .second, .val (.long (own_u2 (own_u3 q * own_inv (-7723592293110705685 : Int64)))), .second, .unset, .unset] [(.long (-4658895280553007687 : Int64)), (.long (own_u2 (own_u3 q * own_inv (-7723592293110705685 : Int64))))]))) (fun t kt => ?_) ?_
  · show Steps p.tables e below (T1.setTop (mkF m 19 #[.val (.long q), .second, .val (.long (own_u3 q)), .second, .unset, .unset, .unset, .unset, .unset, .unset] [(.long (own_inv (-7723592293110705685 : Int64))), (.long (own_u3 q))])) _
    refine XS.lmul X1.here hx rfl (hb hby d2_19) rfl ?_
    show Steps p.tables e below (T1.setTop (mkF m 20 #[.val (.long q), .second, .val (.long (own_u3 q)), .second, .unset, .unset, .unset, .unset, .unset, .unset] [(.long (own_u3 q * own_inv (-7723592293110705685 : Int64)))])) _
    refine XS.lstore X1.here hx rfl (hb hby d2_20) rfl (l' := #[.val (.long q), .second, .val (.long (own_u3 q)), .second, .val (.long (own_u3 q * own_inv (-7723592293110705685 : Int64))), .second, .unset, .unset, .unset, .unset]) rfl ?_
    show Steps p.tables e below (T1.setTop (mkF m 22 #[.val (.long q), .second, .val (.long (own_u3 q)), .second, .val (.long (own_u3 q * own_inv (-7723592293110705685 : Int64))), .second, .unset, .unset, .unset, .unset] [])) _
    refine XS.lload X1.here hx rfl (hb hby d2_22) rfl ?_
    show Steps p.tables e below (T1.setTop (mkF m 24 #[.val (.long q), .second, .val (.long (own_u3 q)), .second, .val (.long (own_u3 q * own_inv (-7723592293110705685 : Int64))), .second, .unset, .unset, .unset, .unset] [(.long (own_u3 q * own_inv (-7723592293110705685 : Int64)))])) _
    refine XS.lload X1.here hx rfl (hb hby d2_24) rfl ?_
    show Steps p.tables e below (T1.setTop (mkF m 26 #[.val (.long q), .second, .val (.long (own_u3 q)), .second, .val (.long (own_u3 q * own_inv (-7723592293110705685 : Int64))), .second, .unset, .unset, .unset, .unset] [(.long (own_u3 q * own_inv (-7723592293110705685 : Int64))), (.long (own_u3 q * own_inv (-7723592293110705685 : Int64)))])) _
    refine XS.bipush X1.here hx rfl (hb hby d2_26) ?_
    show Steps p.tables e below (T1.setTop (mkF m 28 #[.val (.long q), .second, .val (.long (own_u3 q)), .second, .val (.long (own_u3 q * own_inv (-7723592293110705685 : Int64))), .second, .unset, .unset, .unset, .unset] [(.int (27 : Int32)), (.long (own_u3 q * own_inv (-7723592293110705685 : Int64))), (.long (own_u3 q * own_inv (-7723592293110705685 : Int64)))])) _
    refine XS.lushr X1.here hx rfl (hb hby d2_28) rfl ?_
    show Steps p.tables e below (T1.setTop (mkF m 29 #[.val (.long q), .second, .val (.long (own_u3 q)), .second, .val (.long (own_u3 q * own_inv (-7723592293110705685 : Int64))), .second, .unset, .unset, .unset, .unset] [(.long (((own_u3 q * own_inv (-7723592293110705685 : Int64)).toUInt64 >>> ((27 : Int32) &&& 0x3f).toInt64.toUInt64).toInt64)), (.long (own_u3 q * own_inv (-7723592293110705685 : Int64)))])) _
    refine XS.lxor X1.here hx rfl (hb hby d2_29) rfl ?_
    show Steps p.tables e below (T1.setTop (mkF m 30 #[.val (.long q), .second, .val (.long (own_u3 q)), .second, .val (.long (own_u3 q * own_inv (-7723592293110705685 : Int64))), .second, .unset, .unset, .unset, .unset] [(.long ((own_u3 q * own_inv (-7723592293110705685 : Int64)) ^^^ (((own_u3 q * own_inv (-7723592293110705685 : Int64)).toUInt64 >>> ((27 : Int32) &&& 0x3f).toInt64.toUInt64).toInt64)))])) _
    refine XS.lload X1.here hx rfl (hb hby d2_30) rfl ?_
    show Steps p.tables e below (T1.setTop (mkF m 32 #[.val (.long q), .second, .val (.long (own_u3 q)), .second, .val (.long (own_u3 q * own_inv (-7723592293110705685 : Int64))), .second, .unset, .unset, .unset, .unset] [(.long (own_u3 q * own_inv (-7723592293110705685 : Int64))), (.long ((own_u3 q * own_inv (-7723592293110705685 : Int64)) ^^^ (((own_u3 q * own_inv (-7723592293110705685 : Int64)).toUInt64 >>> ((27 : Int32) &&& 0x3f).toInt64.toUInt64).toInt64)))])) _
    refine XS.bipush X1.here hx rfl (hb hby d2_32) ?_
    show Steps p.tables e below (T1.setTop (mkF m 34 #[.val (.long q), .second, .val (.long (own_u3 q)), .second, .val (.long (own_u3 q * own_inv (-7723592293110705685 : Int64))), .second, .unset, .unset, .unset, .unset] [(.int (54 : Int32)), (.long (own_u3 q * own_inv (-7723592293110705685 : Int64))), (.long ((own_u3 q * own_inv (-7723592293110705685 : Int64)) ^^^ (((own_u3 q * own_inv (-7723592293110705685 : Int64)).toUInt64 >>> ((27 : Int32) &&& 0x3f).toInt64.toUInt64).toInt64)))])) _
    refine XS.lushr X1.here hx rfl (hb hby d2_34) rfl ?_
    show Steps p.tables e below (T1.setTop (mkF m 35 #[.val (.long q), .second, .val (.long (own_u3 q)), .second, .val (.long (own_u3 q * own_inv (-7723592293110705685 : Int64))), .second, .unset, .unset, .unset, .unset] [(.long (((own_u3 q * own_inv (-7723592293110705685 : Int64)).toUInt64 >>> ((54 : Int32) &&& 0x3f).toInt64.toUInt64).toInt64)), (.long ((own_u3 q * own_inv (-7723592293110705685 : Int64)) ^^^ (((own_u3 q * own_inv (-7723592293110705685 : Int64)).toUInt64 >>> ((27 : Int32) &&& 0x3f).toInt64.toUInt64).toInt64)))])) _
    refine XS.lxor X1.here hx rfl (hb hby d2_35) rfl ?_
    show Steps p.tables e below (T1.setTop (mkF m 36 #[.val (.long q), .second, .val (.long (own_u3 q)), .second, .val (.long (own_u3 q * own_inv (-7723592293110705685 : Int64))), .second, .unset, .unset, .unset, .unset] [(.long (own_u2 (own_u3 q * own_inv (-7723592293110705685 : Int64))))])) _
    refine XS.lstore X1.here hx rfl (hb hby d2_36) rfl (l' := #[.val (.long q), .second, .val (.long (own_u3 q)), .second, .val (.long (own_u3 q * own_inv (-7723592293110705685 : Int64))), .second, .val (.long (own_u2 (own_u3 q * own_inv (-7723592293110705685 : Int64)))), .second, .unset, .unset]) rfl ?_
    show Steps p.tables e below (T1.setTop (mkF m 38 #[.val (.long q), .second, .val (.long (own_u3 q)), .second, .val (.long (own_u3 q * own_inv (-7723592293110705685 : Int64))), .second, .val (.long (own_u2 (own_u3 q * own_inv (-7723592293110705685 : Int64)))), .second, .unset, .unset] [])) _
    refine XS.lload X1.here hx rfl (hb hby d2_38) rfl ?_
    show Steps p.tables e below (T1.setTop (mkF m 40 #[.val (.long q), .second, .val (.long (own_u3 q)), .second, .val (.long (own_u3 q * own_inv (-7723592293110705685 : Int64))), .second, .val (.long (own_u2 (own_u3 q * own_inv (-7723592293110705685 : Int64)))), .second, .unset, .unset] [(.long (own_u2 (own_u3 q * own_inv (-7723592293110705685 : Int64))))])) _
    refine X1.ldc2Long hx hown (mvT hZ (hw _ (List.mem_of_getElem? (i := 15) rfl))) (g := (mkF m 40 #[.val (.long q), .second, .val (.long (own_u3 q)), .second, .val (.long (own_u3 q * own_inv (-7723592293110705685 : Int64))), .second, .val (.long (own_u2 (own_u3 q * own_inv (-7723592293110705685 : Int64)))), .second, .unset, .unset] [(.long (own_u2 (own_u3 q * own_inv (-7723592293110705685 : Int64))))])) rfl (hb hby d2_40) _ ?_
    exact kt
  obtain ⟨_, _, ⟨T2, L2, k2, n2⟩, -, X2, ⟨Lc2, hQ2, l2, y2, z2⟩, st2⟩ := Jvm.LawKit.callS X1 hx (y := (⟨"com/example/hearsay/hearsay/community/HashesMixPinLaw", "inv", "(J)J"⟩ : MethodName)) hown (mvT hZ (hw _ (List.mem_of_getElem? (i := 11) rfl))) (mvT hZ (hw _ (List.mem_of_getElem? (i := 12) rfl))) (mvT hZ (hw _ (List.mem_of_getElem? (i := 8) rfl))) (mvT hZ (hw _ (List.mem_of_getElem? (i := 13) rfl))) (by decide) (backOf (W := 2) (rm3 l Z a0 hw [] (-4658895280553007687 : Int64) h0 n0 Z0 ) hZ (hw _ (List.mem_of_getElem? (i := 13) rfl)) (hw _ (List.mem_of_getElem? (i := 8) rfl)) (by decide) (by decide)) (g := (mkF m 43 #[.val (.long q), .second, .val (.long (own_u3 q)), .second, .val (.long (own_u3 q * own_inv (-7723592293110705685 : Int64))), .second, .val (.long (own_u2 (own_u3 q * own_inv (-7723592293110705685 : Int64)))), .second, .unset, .unset] [(.long (-4658895280553007687 : Int64)), (.long (own_u2 (own_u3 q * own_inv (-7723592293110705685 : Int64))))])) rfl (by rw [hml]; rfl) (argsL := [(.long (-4658895280553007687 : Int64))]) (rest := [(.long (own_u2 (own_u3 q * own_inv (-7723592293110705685 : Int64))))]) (lenOf pd_0 rfl) rfl (by show 2 * 0 + _ ≤ _; exact Nat.le_of_eq rfl) (hb hby d2_43) (fun _ _ => ⟨rfl, hh1, (by decide : 0 + 0 ≤ _), (by decide : 0 + 0 ≤ _)⟩)
  dsimp only [Pt.U, Pt.locs, Pt.cells, Pt.slots] at X2 l2 y2 z2 st2 hQ2
  subst l2 y2 z2
  obtain ⟨rfl, N2q, hh2⟩ := hQ2
  have N2 := Fr.app N1 N2q
  refine own_Go.of (S' := (T2.setTop (mkF m 46 #[.val (.long q), .second, .val (.long (own_u3 q)), .second, .val (.long (own_u3 q * own_inv (-7723592293110705685 : Int64))), .second, .val (.long (own_u2 (own_u3 q * own_inv (-7723592293110705685 : Int64)))), .second, .unset, .unset] [(.long (own_inv (-4658895280553007687 : Int64))), (.long (own_u2 (own_u3 q * own_inv (-7723592293110705685 : Int64))))]))) (fun t kt => st2 t kt) ?_
  refine own_Go.of (S' := (T2.setTop (mkF m 63 #[.val (.long q), .second, .val (.long (own_u3 q)), .second, .val (.long (own_u3 q * own_inv (-7723592293110705685 : Int64))), .second, .val (.long (own_u2 (own_u3 q * own_inv (-7723592293110705685 : Int64)))), .second, .val (.long (own_u2 (own_u3 q * own_inv (-7723592293110705685 : Int64)) * own_inv (-4658895280553007687 : Int64))), .second] [(.long (own_u1 (own_u2 (own_u3 q * own_inv (-7723592293110705685 : Int64)) * own_inv (-4658895280553007687 : Int64))))]))) (fun t kt => ?_) ?_
  · show Steps p.tables e below (T2.setTop (mkF m 46 #[.val (.long q), .second, .val (.long (own_u3 q)), .second, .val (.long (own_u3 q * own_inv (-7723592293110705685 : Int64))), .second, .val (.long (own_u2 (own_u3 q * own_inv (-7723592293110705685 : Int64)))), .second, .unset, .unset] [(.long (own_inv (-4658895280553007687 : Int64))), (.long (own_u2 (own_u3 q * own_inv (-7723592293110705685 : Int64))))])) _
    refine XS.lmul X2.here hx rfl (hb hby d2_46) rfl ?_
    show Steps p.tables e below (T2.setTop (mkF m 47 #[.val (.long q), .second, .val (.long (own_u3 q)), .second, .val (.long (own_u3 q * own_inv (-7723592293110705685 : Int64))), .second, .val (.long (own_u2 (own_u3 q * own_inv (-7723592293110705685 : Int64)))), .second, .unset, .unset] [(.long (own_u2 (own_u3 q * own_inv (-7723592293110705685 : Int64)) * own_inv (-4658895280553007687 : Int64)))])) _
    refine XS.lstore X2.here hx rfl (hb hby d2_47) rfl (l' := #[.val (.long q), .second, .val (.long (own_u3 q)), .second, .val (.long (own_u3 q * own_inv (-7723592293110705685 : Int64))), .second, .val (.long (own_u2 (own_u3 q * own_inv (-7723592293110705685 : Int64)))), .second, .val (.long (own_u2 (own_u3 q * own_inv (-7723592293110705685 : Int64)) * own_inv (-4658895280553007687 : Int64))), .second]) rfl ?_
    show Steps p.tables e below (T2.setTop (mkF m 49 #[.val (.long q), .second, .val (.long (own_u3 q)), .second, .val (.long (own_u3 q * own_inv (-7723592293110705685 : Int64))), .second, .val (.long (own_u2 (own_u3 q * own_inv (-7723592293110705685 : Int64)))), .second, .val (.long (own_u2 (own_u3 q * own_inv (-7723592293110705685 : Int64)) * own_inv (-4658895280553007687 : Int64))), .second] [])) _
    refine XS.lload X2.here hx rfl (hb hby d2_49) rfl ?_
    show Steps p.tables e below (T2.setTop (mkF m 51 #[.val (.long q), .second, .val (.long (own_u3 q)), .second, .val (.long (own_u3 q * own_inv (-7723592293110705685 : Int64))), .second, .val (.long (own_u2 (own_u3 q * own_inv (-7723592293110705685 : Int64)))), .second, .val (.long (own_u2 (own_u3 q * own_inv (-7723592293110705685 : Int64)) * own_inv (-4658895280553007687 : Int64))), .second] [(.long (own_u2 (own_u3 q * own_inv (-7723592293110705685 : Int64)) * own_inv (-4658895280553007687 : Int64)))])) _
    refine XS.lload X2.here hx rfl (hb hby d2_51) rfl ?_
    show Steps p.tables e below (T2.setTop (mkF m 53 #[.val (.long q), .second, .val (.long (own_u3 q)), .second, .val (.long (own_u3 q * own_inv (-7723592293110705685 : Int64))), .second, .val (.long (own_u2 (own_u3 q * own_inv (-7723592293110705685 : Int64)))), .second, .val (.long (own_u2 (own_u3 q * own_inv (-7723592293110705685 : Int64)) * own_inv (-4658895280553007687 : Int64))), .second] [(.long (own_u2 (own_u3 q * own_inv (-7723592293110705685 : Int64)) * own_inv (-4658895280553007687 : Int64))), (.long (own_u2 (own_u3 q * own_inv (-7723592293110705685 : Int64)) * own_inv (-4658895280553007687 : Int64)))])) _
    refine XS.bipush X2.here hx rfl (hb hby d2_53) ?_
    show Steps p.tables e below (T2.setTop (mkF m 55 #[.val (.long q), .second, .val (.long (own_u3 q)), .second, .val (.long (own_u3 q * own_inv (-7723592293110705685 : Int64))), .second, .val (.long (own_u2 (own_u3 q * own_inv (-7723592293110705685 : Int64)))), .second, .val (.long (own_u2 (own_u3 q * own_inv (-7723592293110705685 : Int64)) * own_inv (-4658895280553007687 : Int64))), .second] [(.int (30 : Int32)), (.long (own_u2 (own_u3 q * own_inv (-7723592293110705685 : Int64)) * own_inv (-4658895280553007687 : Int64))), (.long (own_u2 (own_u3 q * own_inv (-7723592293110705685 : Int64)) * own_inv (-4658895280553007687 : Int64)))])) _
    refine XS.lushr X2.here hx rfl (hb hby d2_55) rfl ?_
    show Steps p.tables e below (T2.setTop (mkF m 56 #[.val (.long q), .second, .val (.long (own_u3 q)), .second, .val (.long (own_u3 q * own_inv (-7723592293110705685 : Int64))), .second, .val (.long (own_u2 (own_u3 q * own_inv (-7723592293110705685 : Int64)))), .second, .val (.long (own_u2 (own_u3 q * own_inv (-7723592293110705685 : Int64)) * own_inv (-4658895280553007687 : Int64))), .second] [(.long (((own_u2 (own_u3 q * own_inv (-7723592293110705685 : Int64)) * own_inv (-4658895280553007687 : Int64)).toUInt64 >>> ((30 : Int32) &&& 0x3f).toInt64.toUInt64).toInt64)), (.long (own_u2 (own_u3 q * own_inv (-7723592293110705685 : Int64)) * own_inv (-4658895280553007687 : Int64)))])) _
    refine XS.lxor X2.here hx rfl (hb hby d2_56) rfl ?_
    show Steps p.tables e below (T2.setTop (mkF m 57 #[.val (.long q), .second, .val (.long (own_u3 q)), .second, .val (.long (own_u3 q * own_inv (-7723592293110705685 : Int64))), .second, .val (.long (own_u2 (own_u3 q * own_inv (-7723592293110705685 : Int64)))), .second, .val (.long (own_u2 (own_u3 q * own_inv (-7723592293110705685 : Int64)) * own_inv (-4658895280553007687 : Int64))), .second] [(.long ((own_u2 (own_u3 q * own_inv (-7723592293110705685 : Int64)) * own_inv (-4658895280553007687 : Int64)) ^^^ (((own_u2 (own_u3 q * own_inv (-7723592293110705685 : Int64)) * own_inv (-4658895280553007687 : Int64)).toUInt64 >>> ((30 : Int32) &&& 0x3f).toInt64.toUInt64).toInt64)))])) _
    refine XS.lload X2.here hx rfl (hb hby d2_57) rfl ?_
    show Steps p.tables e below (T2.setTop (mkF m 59 #[.val (.long q), .second, .val (.long (own_u3 q)), .second, .val (.long (own_u3 q * own_inv (-7723592293110705685 : Int64))), .second, .val (.long (own_u2 (own_u3 q * own_inv (-7723592293110705685 : Int64)))), .second, .val (.long (own_u2 (own_u3 q * own_inv (-7723592293110705685 : Int64)) * own_inv (-4658895280553007687 : Int64))), .second] [(.long (own_u2 (own_u3 q * own_inv (-7723592293110705685 : Int64)) * own_inv (-4658895280553007687 : Int64))), (.long ((own_u2 (own_u3 q * own_inv (-7723592293110705685 : Int64)) * own_inv (-4658895280553007687 : Int64)) ^^^ (((own_u2 (own_u3 q * own_inv (-7723592293110705685 : Int64)) * own_inv (-4658895280553007687 : Int64)).toUInt64 >>> ((30 : Int32) &&& 0x3f).toInt64.toUInt64).toInt64)))])) _
    refine XS.bipush X2.here hx rfl (hb hby d2_59) ?_
    show Steps p.tables e below (T2.setTop (mkF m 61 #[.val (.long q), .second, .val (.long (own_u3 q)), .second, .val (.long (own_u3 q * own_inv (-7723592293110705685 : Int64))), .second, .val (.long (own_u2 (own_u3 q * own_inv (-7723592293110705685 : Int64)))), .second, .val (.long (own_u2 (own_u3 q * own_inv (-7723592293110705685 : Int64)) * own_inv (-4658895280553007687 : Int64))), .second] [(.int (60 : Int32)), (.long (own_u2 (own_u3 q * own_inv (-7723592293110705685 : Int64)) * own_inv (-4658895280553007687 : Int64))), (.long ((own_u2 (own_u3 q * own_inv (-7723592293110705685 : Int64)) * own_inv (-4658895280553007687 : Int64)) ^^^ (((own_u2 (own_u3 q * own_inv (-7723592293110705685 : Int64)) * own_inv (-4658895280553007687 : Int64)).toUInt64 >>> ((30 : Int32) &&& 0x3f).toInt64.toUInt64).toInt64)))])) _
    refine XS.lushr X2.here hx rfl (hb hby d2_61) rfl ?_
    show Steps p.tables e below (T2.setTop (mkF m 62 #[.val (.long q), .second, .val (.long (own_u3 q)), .second, .val (.long (own_u3 q * own_inv (-7723592293110705685 : Int64))), .second, .val (.long (own_u2 (own_u3 q * own_inv (-7723592293110705685 : Int64)))), .second, .val (.long (own_u2 (own_u3 q * own_inv (-7723592293110705685 : Int64)) * own_inv (-4658895280553007687 : Int64))), .second] [(.long (((own_u2 (own_u3 q * own_inv (-7723592293110705685 : Int64)) * own_inv (-4658895280553007687 : Int64)).toUInt64 >>> ((60 : Int32) &&& 0x3f).toInt64.toUInt64).toInt64)), (.long ((own_u2 (own_u3 q * own_inv (-7723592293110705685 : Int64)) * own_inv (-4658895280553007687 : Int64)) ^^^ (((own_u2 (own_u3 q * own_inv (-7723592293110705685 : Int64)) * own_inv (-4658895280553007687 : Int64)).toUInt64 >>> ((30 : Int32) &&& 0x3f).toInt64.toUInt64).toInt64)))])) _
    refine XS.lxor X2.here hx rfl (hb hby d2_62) rfl ?_
    exact kt
  exact own_retJ X2 hx hlk hret (hb hby d2_63) hh2 ⟨rfl, N2, rfl⟩ (by decide) (by decide)
theorem pn_0 : plainName "com/example/hearsay/hearsay/community/HashesMixPinLaw" = true := by first | (simp [plainName, overriddenIn]; done) | decide +kernel
def Q_rm0 (Z : State) (p0 : Int64) (h0 : Heap) (n0 : Nat) (v : Option Value) (h : Heap) (L : List Loc) : Prop := v = some (.int (1 : Int32)) ∧ Fr n0 L
set_option maxRecDepth 65536 in
set_option maxHeartbeats 40000000 in
theorem rm0 (l : Launch) (Z : State) (a0 : Array Value) (hw : ∀ d ∈ tables_1, d.before a0 Z = true) (ws : List Jvm.Cond) (p0 : Int64) (h0 : Heap) (n0 : Nat) (Z0 : n0 ≤ h0.size)  :
    own_Met l Z h0 x code maxLocals ret ws room_1 #[(.long p0)] (Q_rm0 Z p0 h0 n0) := by
  refine own_enter (plainFor_of_name pn_0) ?_
  intro p e s m below meth c T0 X0 hx hby hml hret hlk hown hnm hZ e0
  have N0 := Fr.nil n0
  rw [show entryFrame m #[(.long p0)] maxLocals = (mkF m 0 #[.val (.long p0), .second] []) from by first | rfl | simp [entryFrame, mkF, argsToLocals, Value.category, maxLocals]]
  refine own_Go.of (S' := (T0.setTop (mkF m 1 #[.val (.long p0), .second] [(.long p0)]))) (fun t kt => ?_) ?_
  · show Steps p.tables e below (T0.setTop (mkF m 0 #[.val (.long p0), .second] [])) _
    refine XS.lloadN X0.here hx rfl (hb hby at_0) rfl ?_
    exact kt
  obtain ⟨_, _, ⟨T3, L3, k3, n3⟩, -, X3, ⟨Lc3, hQ3, l3, y3, z3⟩, st3⟩ := Jvm.LawKit.callS X0 hx (y := (⟨"com/example/hearsay/hearsay/community/Hashes", "mix", "(J)J"⟩ : MethodName)) hown (mvT hZ (hw _ (List.mem_of_getElem? (i := 0) rfl))) (mvT hZ (hw _ (List.mem_of_getElem? (i := 1) rfl))) (mvT hZ (hw _ (List.mem_of_getElem? (i := 2) rfl))) (mvT hZ (hw _ (List.mem_of_getElem? (i := 3) rfl))) (by decide) (backOf (W := 0) (rm1 l Z a0 hw [] p0 h0 n0 Z0 ) hZ (hw _ (List.mem_of_getElem? (i := 3) rfl)) (hw _ (List.mem_of_getElem? (i := 2) rfl)) (by decide) (by decide)) (g := (mkF m 1 #[.val (.long p0), .second] [(.long p0)])) rfl (by rw [hml]; rfl) (argsL := [(.long p0)]) (rest := []) (lenOf pd_0 rfl) rfl (by show 2 * 0 + _ ≤ _; exact Nat.le_of_eq rfl) (hb hby at_1) (fun _ _ => ⟨rfl, e0, (by decide : 0 + 0 ≤ _), (by decide : 0 + 0 ≤ _)⟩)
  dsimp only [Pt.U, Pt.locs, Pt.cells, Pt.slots] at X3 l3 y3 z3 st3 hQ3
  subst l3 y3 z3
  obtain ⟨rfl, N3q, hh3⟩ := hQ3
  have N3 := Fr.app N0 N3q
  refine own_Go.of (S' := (T3.setTop (mkF m 4 #[.val (.long p0), .second] [(.long (own_mix p0))]))) (fun t kt => st3 t kt) ?_
  obtain ⟨_, _, ⟨T4, L4, k4, n4⟩, -, X4, ⟨Lc4, hQ4, l4, y4, z4⟩, st4⟩ := Jvm.LawKit.callS X3 hx (y := (⟨"com/example/hearsay/hearsay/community/HashesMixPinLaw", "unmix", "(J)J"⟩ : MethodName)) hown (mvT hZ (hw _ (List.mem_of_getElem? (i := 6) rfl))) (mvT hZ (hw _ (List.mem_of_getElem? (i := 7) rfl))) (mvT hZ (hw _ (List.mem_of_getElem? (i := 8) rfl))) (mvT hZ (hw _ (List.mem_of_getElem? (i := 9) rfl))) (by decide) (backOf (W := 0) (rm2 l Z a0 hw [] (own_mix p0) h0 n0 Z0 ) hZ (hw _ (List.mem_of_getElem? (i := 9) rfl)) (hw _ (List.mem_of_getElem? (i := 8) rfl)) (by decide) (by decide)) (g := (mkF m 4 #[.val (.long p0), .second] [(.long (own_mix p0))])) rfl (by rw [hml]; rfl) (argsL := [(.long (own_mix p0))]) (rest := []) (lenOf pd_0 rfl) rfl (by show 2 * 0 + _ ≤ _; exact Nat.le_of_eq rfl) (hb hby at_4) (fun _ _ => ⟨rfl, hh3, (by decide : 0 + 0 ≤ _), (by decide : 0 + 0 ≤ _)⟩)
  dsimp only [Pt.U, Pt.locs, Pt.cells, Pt.slots] at X4 l4 y4 z4 st4 hQ4
  subst l4 y4 z4
  obtain ⟨rfl, N4q, hh4⟩ := hQ4
  have N4 := Fr.app N3 N4q
  refine own_Go.of (S' := (T4.setTop (mkF m 7 #[.val (.long p0), .second] [(.long (own_unmix (own_mix p0)))]))) (fun t kt => st4 t kt) ?_
  refine own_Go.of (S' := (T4.setTop (mkF m 17 #[.val (.long p0), .second] [(.int (1 : Int32))]))) (fun t kt => ?_) ?_
  · show Steps p.tables e below (T4.setTop (mkF m 7 #[.val (.long p0), .second] [(.long (own_unmix (own_mix p0)))])) _
    refine XS.lloadN X4.here hx rfl (hb hby at_7) rfl ?_
    show Steps p.tables e below (T4.setTop (mkF m 8 #[.val (.long p0), .second] [(.long p0), (.long (own_unmix (own_mix p0)))])) _
    refine XS.lcmp X4.here hx rfl (hb hby at_8) rfl ?_
    show Steps p.tables e below (T4.setTop (mkF m 9 #[.val (.long p0), .second] [(.int (lcmpW (own_unmix (own_mix p0)) p0))])) _
    refine XS.ifNo X4.here hx rfl (hb hby at_9) rfl ((if0 _ _).trans (teq ((lw_eq _ _).mpr (own_round p0))).2) ?_
    show Steps p.tables e below (T4.setTop (mkF m 12 #[.val (.long p0), .second] [])) _
    refine XS.iconst X4.here hx rfl (hb hby at_12) ?_
    show Steps p.tables e below (T4.setTop (mkF m 13 #[.val (.long p0), .second] [(.int (1 : Int32))])) _
    refine XS.goto X4.here hx rfl (pc0 := 13) (pc' := 17) rfl (hb hby at_13) (by decide) (by decide) ?_
    exact kt
  exact own_retN X4 hx hlk (t := .boolean) hret (by simp) (hb hby at_17) hh4 ⟨rfl, N4⟩ (by decide) (by decide)
set_option maxRecDepth 65536 in
set_option maxHeartbeats 40000000 in
theorem comes_1 {Post : Tables → Env → Array Value → State → Outcome → State → Prop} (hpost : ∀ tb e args s v u, (limb_1_1.after args s (.returned v) u = true ∧ limb_1_2.after args s (.returned v) u = true ∧ True) → FrameEnd s (.returned v) u (Jvm.fieldLocs frame_1_writes args s ++ Jvm.arrayLocs frame_1_arrays args s ++ Jvm.staticLocs frame_1_statics s) 0 0 → Post tb e args s (.returned v) u) :
    ArmFor flags0 classFile x code maxLocals ret World_1 tables_1 room_1 Calls_1 rest_1 Pre_1 Post := by
  intro l hfl _ _ p e ha hc hk s m args below hf hA hF happ hP
  obtain ⟨hcalls, hrest, hpre⟩ := hP
  obtain ⟨-, -, -, hnamed, -, -, -, hat⟩ := (Spec.applies_iff hf).mp happ
  obtain ⟨hg, hn⟩ := and_e (Cond.before_iff.mp (show (Jvm.Cond.and given_1 narrow_1).before args s = true from hpre))
  obtain ⟨gc, gr0⟩ := and_e hg
  obtain ⟨w0, rfl⟩ : ∃ w0 : Value, args = #[w0] := by
    have hs : args.size = 1 := by simpa [Cond.value, given_1] using gc
    obtain ⟨L⟩ := args
    match L, hs with
    | [w0], _ => exact ⟨w0, rfl⟩
  have hw := fun d (hd : d ∈ tables_1) => atoms_spec (ws := Jvm.Cond.code x code maxLocals ret :: tables_1) hat d (List.mem_cons_of_mem _ hd)
  have hfit : Fit s := fun {y c} hc i hi => by
    obtain ⟨ha, rfl⟩ := Array.getElem?_eq_some_iff.mp hc
    have q := List.all_eq_true.mp ((Array.all_eq_true_iff_forall_mem.mp hF) _ (Array.getElem_mem ha)) i (List.mem_range.mpr hi)
    simpa [Array.getElem?_eq_getElem hi] using q
  obtain ⟨i0, ei0⟩ := isL_v gr0
  obtain rfl : w0 = (.long i0) := Option.some.inj ei0
  obtain ⟨n, o, h1, h2, h3, _, L, rfl, ⟨rfl, N⟩, hq⟩ := rm0 l s _ hw tables_1 i0 s.heap s.heap.size (Nat.le_refl _)  p e ha hc hk s m _ below hf ((Spec.applies_iff_loose hf).mp happ).1 ⟨rfl, State.Warmed39.refl s, rfl⟩ trivial
  refine ⟨n, _, h1, h2, h3, hpost _ _ _ _ _ _ ⟨Cond.after_iff.mpr rfl, Cond.after_iff.mpr (eq_i res_at (Term.int_eval (1)) rfl), trivial⟩ ⟨hq.1, hq.2.1, (hq.2.2.sift fun y hy => Or.inr (N y hy)).mono (by decide) (by decide)⟩⟩
theorem main_1_1 : Claimed_1_1 := comes_1 fun _ _ _ _ _ _ h hF => ⟨h.1, hF⟩
theorem main_1_2 : Claimed_1_2 := comes_1 fun _ _ _ _ _ _ h hF => ⟨h.2.1, hF⟩
end Jvm.Pilot.@@N@@
namespace Jvm.Pilot.@@N@@
open Jvm Jvm.ClassFile Sem Op Lib Jvm.Free Jvm.Stand Jvm.Pilot.@@N@@.Jvm.D
/-! MADE BY PROGRAM (witnessworld.py) out of the Statement's table words and the real class files: 9 classes; the members and pool entries that the words name. The judged class is class 1, her method 3. -/
namespace start1
open Jvm.ClassFile
def u (s : String) : CpInfo := .utf8 (stringToUtf16 s)
/-- a pool by its gaps: so many unusable entries, then the entry; so many at the end -/
def gap : Nat → List CpInfo → List CpInfo
  | 0, r => r
  | n + 1, r => .unusable :: gap n r
def poolList (es : List (Nat × CpInfo)) (last : Nat) : List CpInfo := es.foldr (fun e r => gap e.1 (e.2 :: r)) (gap last [])
def pool (es : List (Nat × CpInfo)) (last : Nat) : Array CpInfo := ⟨poolList es last⟩
def fileOf (pool : Array CpInfo) (this : Nat) (attrs : Array Attribute := #[]) (ms : Array MethodInfo := #[]) (fl : Nat := 33) (sup : Nat := 0) (ifs : Array Nat := #[]) (fds : Array FieldInfo := #[]) : ClassFile where
  minorVersion := 0
  majorVersion := 65
  constantPool := pool
  accessFlags := fl
  thisClass := this
  superClass := sup
  interfaces := ifs
  fields := fds
  methods := ms
  attributes := attrs
def plain (name : String) (sup : Option ClassId) : Class where
  name := name
  kind := .ordinary
  loader := none
  accessFlags := 33
  super := sup
  interfaces := #[]
  cf := none
  fields := #[]
  methods := #[]
  instanceTypes := #[]
  staticTypes := #[]
  resolved := #[]
  callSites := []
  init := .initialized
  statics := none
  mirror := none

def pool0 : Array CpInfo := pool [(5, u "<init>"), (0, u "()V"), (1, .class_ 10), (1, u "java/lang/Object")] 113

def k0m0 : Method := { name := "<init>", desc := "()V", sig := { parameters := [], returnType := none }, accessFlags := 1, code := none }
/-- java/lang/Object -/
def k0 : Class := { plain "java/lang/Object" none with
  accessFlags := 33
  interfaces := #[]
  cf := some (fileOf pool0 8 #[] #[{ accessFlags := 1, nameIndex := 5, descriptorIndex := 6, attributes := #[] }] 33 0 #[] #[])
  fields := #[]
  methods := #[k0m0]
  instanceTypes := #[]
  staticTypes := #[]
  resolved := Array.replicate 124 none
  statics := none }

def pool1 : Array CpInfo := pool [(2, .class_ 4), (1, u "java/lang/Object"), (0, u "<init>"), (0, u "()V"), (0, .long 2), (1, .long 10723151780598845931), (1, .methodref 12 13), (0, .class_ 14), (0, .nameAndType 15 16), (0, u "com/example/hearsay/hearsay/community/HashesMixPinLaw"), (0, u "inv"), (0, u "(J)J"), (0, .long 13787848793156543929), (1, .methodref 20 21), (0, .class_ 22), (0, .nameAndType 23 16), (0, u "com/example/hearsay/hearsay/community/Hashes"), (0, u "mix"), (0, .methodref 12 25), (0, .nameAndType 26 16), (0, u "unmix"), (2, u "law"), (0, u "(J)Z")] 3

def k1m0 : Method := { name := "<init>", desc := "()V", sig := { parameters := [], returnType := none }, accessFlags := 2, code := none }
def k1c1 : Code := { maxStack := 8, maxLocals := 4, code := method_2_code, exceptionTable := #[], attributes := #[] }
def k1m1 : Method := { name := "inv", desc := "(J)J", sig := { parameters := [.long], returnType := some .long }, accessFlags := 10, code := some k1c1 }
def k1c2 : Code := { maxStack := 5, maxLocals := 10, code := method_3_code, exceptionTable := #[], attributes := #[] }
def k1m2 : Method := { name := "unmix", desc := "(J)J", sig := { parameters := [.long], returnType := some .long }, accessFlags := 10, code := some k1c2 }
def k1c3 : Code := { maxStack := 4, maxLocals := 2, code := code, exceptionTable := #[], attributes := #[] }
def k1m3 : Method := { name := "law", desc := "(J)Z", sig := { parameters := [.long], returnType := some .boolean }, accessFlags := 9, code := some k1c3 }
/-- com/example/hearsay/hearsay/community/HashesMixPinLaw -/
def k1 : Class := { plain "com/example/hearsay/hearsay/community/HashesMixPinLaw" (some 0) with
  accessFlags := 49
  interfaces := #[]
  cf := some (fileOf pool1 12 #[] #[{ accessFlags := 2, nameIndex := 5, descriptorIndex := 6, attributes := #[] }, { accessFlags := 10, nameIndex := 15, descriptorIndex := 16, attributes := #[] }, { accessFlags := 10, nameIndex := 26, descriptorIndex := 16, attributes := #[] }, { accessFlags := 9, nameIndex := 29, descriptorIndex := 30, attributes := #[] }] 49 2 #[] #[])
  fields := #[]
  methods := #[k1m0, k1m1, k1m2, k1m3]
  instanceTypes := #[]
  staticTypes := #[]
  resolved := Array.replicate 34 none
  statics := none }

def pool2 : Array CpInfo := pool [(2, .class_ 4), (1, u "java/lang/Object"), (0, u "<init>"), (0, u "()V"), (0, .class_ 8), (0, u "com/example/hearsay/hearsay/community/Hashes"), (26, u "mix"), (0, u "(J)J"), (0, .long 13787848793156543929), (1, .long 10723151780598845931), (1, u "FNV_OFFSET"), (0, u "J"), (1, u "FNV_PRIME")] 9

def k2m0 : Method := { name := "<init>", desc := "()V", sig := { parameters := [], returnType := none }, accessFlags := 2, code := none }
def k2c1 : Code := { maxStack := 5, maxLocals := 4, code := prog_15_method_3_code, exceptionTable := #[], attributes := #[] }
def k2m1 : Method := { name := "mix", desc := "(J)J", sig := { parameters := [.long], returnType := some .long }, accessFlags := 8, code := some k2c1 }
/-- com/example/hearsay/hearsay/community/Hashes -/
def k2 : Class := { plain "com/example/hearsay/hearsay/community/Hashes" (some 0) with
  accessFlags := 48
  interfaces := #[]
  cf := some (fileOf pool2 7 #[] #[{ accessFlags := 2, nameIndex := 5, descriptorIndex := 6, attributes := #[] }, { accessFlags := 8, nameIndex := 35, descriptorIndex := 36, attributes := #[] }] 48 2 #[] #[{ accessFlags := 26, nameIndex := 41, descriptorIndex := 42, attributes := #[] }, { accessFlags := 26, nameIndex := 44, descriptorIndex := 42, attributes := #[] }])
  fields := #[{ name := "FNV_OFFSET", type := .long, accessFlags := 26, slot := 0, constantValue := 0 }, { name := "FNV_PRIME", type := .long, accessFlags := 26, slot := 1, constantValue := 0 }]
  methods := #[k2m0, k2m1]
  instanceTypes := #[]
  staticTypes := #[.long, .long]
  resolved := Array.replicate 54 none
  statics := none }

def pool3 : Array CpInfo := pool [(1, u "java/lang/Cloneable"), (0, .class_ 1), (0, u "java/lang/Object"), (0, .class_ 3)] 3

/-- java/lang/Cloneable -/
def k3 : Class := { plain "java/lang/Cloneable" (some 0) with
  accessFlags := 1537
  interfaces := #[]
  cf := some (fileOf pool3 2 #[] #[] 1537 4 #[] #[])
  fields := #[]
  methods := #[]
  instanceTypes := #[]
  staticTypes := #[]
  resolved := Array.replicate 8 none
  statics := none }

def pool4 : Array CpInfo := pool [(1, u "java/io/Serializable"), (0, .class_ 1), (0, u "java/lang/Object"), (0, .class_ 3)] 3

/-- java/io/Serializable -/
def k4 : Class := { plain "java/io/Serializable" (some 0) with
  accessFlags := 1537
  interfaces := #[]
  cf := some (fileOf pool4 2 #[] #[] 1537 4 #[] #[])
  fields := #[]
  methods := #[]
  instanceTypes := #[]
  staticTypes := #[]
  resolved := Array.replicate 8 none
  statics := none }

/-- the primitive byte -/
def k5 : Class := { plain "byte" none with kind := .primitive 'B', accessFlags := 0x411 }
/-- [B -/
def k6 : Class := { plain "[B" (some 0) with kind := .array 5 .byte, interfaces := #[3, 4], accessFlags := 1041 }

/-- the primitive int -/
def k7 : Class := { plain "int" none with kind := .primitive 'I', accessFlags := 0x411 }
/-- [I -/
def k8 : Class := { plain "[I" (some 0) with kind := .array 7 .int, interfaces := #[3, 4], accessFlags := 1041 }

def heap : Heap := #[]
def classes : Array Class := #[k0, k1, k2, k3, k4, k5, k6, k7, k8]
def interned : List (Array UInt16 × Addr) := []
def slotsUsed : Nat := 0
def theMethod : MethodId := ⟨1, 3⟩
def args0 : Array Value := #[.long 5]
def aboutOver (below : List Frame) : State where
  vm := { classes := classes, interned := interned.toArray }
  heap := heap
  slotsUsed := slotsUsed
  threads := #[{ frames := .invoking theMethod args0 :: below }]
def below0 : List Frame := [.native { method := ⟨0, 0⟩, args := #[] }]
def about1 : State := aboutOver below0
def p0 : Program := .bare "" "" ""
def e0 : Env := launch0.env 0 0 0
theorem w_frames : about1.frames = Frame.invoking theMethod args0 :: below0 := rfl
set_option maxRecDepth 65536 in
theorem w_args : argsFit about1.vm theMethod args0 = true := by decide +kernel
set_option maxRecDepth 65536 in
theorem w_heap : heapFits about1 = true := by decide +kernel
set_option maxRecDepth 65536 in
theorem w_runnable : about1.curStatus? = some .runnable := by decide +kernel
set_option maxRecDepth 65536 in
theorem w_alone : about1.alone = true := by decide +kernel
set_option maxRecDepth 65536 in
theorem w_named : about1.methodNamed? x = some theMethod := by decide +kernel
set_option maxRecDepth 65536 in
theorem w_hears : about1.hears theMethod below0 = true := by decide +kernel
set_option maxRecDepth 65536 in
theorem w_ripe : about1.ripe theMethod args0 below0 = true := by decide +kernel
theorem w_running : about1.status = .running := rfl
set_option maxRecDepth 65536 in
theorem w_room : about1.hasRoom e0.platform room_1 = true :=
  launch0.hasRoom_least _ room_1 (by decide +kernel) (by decide +kernel) (by decide +kernel) (by decide +kernel) (by decide +kernel) (by decide +kernel)
theorem allAtoms_all (ts : List Jvm.Cond) (a : Array Jvm.Value) (st : Jvm.State) : (allAtoms ts).before a st = ts.all (fun c => c.before a st) := by
  induction ts with
  | nil => rfl
  | cons c t ih =>
    show (Jvm.Cond.and c (allAtoms t)).before a st = _
    rw [Jvm.Cond.before_and, ih, List.all_cons]
def words1 : List Jvm.Cond := Jvm.Cond.code x code maxLocals ret :: tables_1
/-- a 'code' word, met by the world's own term for the bytes: nothing is compared byte by byte -/
theorem code_word {y : MethodName} {bytes : ByteArray} {mx : Nat} {rt : Option FieldType} {a : Array Value} {s : State} {m : MethodId} {meth : Method} {c : Code} (h1 : s.methodNamed? y = some m) (h2 : s.vm.method? m = some meth) (h3 : meth.code = some c) (h4 : c.code = bytes)
    (h5 : (c.maxLocals == mx && c.exceptionTable.isEmpty && decide (c.maxStack ≤ mostOperands) && decide (meth.sig.returnType = rt) && !meth.locks && decide (parseMethodDescriptor y.desc = some meth.sig)) = true) : (Jvm.Cond.code y bytes mx rt).before a s = true := by
  simp only [Bool.and_eq_true, beq_iff_eq, Bool.not_eq_true', decide_eq_true_eq] at h5
  obtain ⟨⟨⟨⟨⟨g1, g2⟩, g3⟩, g4⟩, g5⟩, g6⟩ := h5
  simp [Cond.before, Cond.holds, Cond.value, h1, h2, h3, h4, g1, g2, g3, g4, g5, g6]
def isCode : Jvm.Cond → Bool
  | .code _ _ _ _ => true
  | _ => false
theorem all_split {L : List Jvm.Cond} {P : Jvm.Cond → Bool} (h1 : L.all (fun c => isCode c || P c) = true) (h2 : ∀ c ∈ L.filter isCode, P c = true) : L.all P = true := by
  refine List.all_eq_true.mpr fun c hc => ?_
  have h := List.all_eq_true.mp h1 c hc
  rcases Bool.eq_false_or_eq_true (isCode c) with hi | hi
  · exact h2 c (List.mem_filter.mpr ⟨hc, hi⟩)
  · simpa [hi] using h
set_option maxRecDepth 65536 in
theorem w_c0 : (Jvm.Cond.code x code maxLocals ret).before args0 about1 = true := code_word (m := ⟨1, 3⟩) (meth := k1m3) (c := k1c3) (by decide +kernel) rfl rfl rfl (by decide +kernel)
set_option maxRecDepth 65536 in
theorem w_c1 : (Jvm.Cond.code ({ cls := "com/example/hearsay/hearsay/community/Hashes", name := "mix", desc := "(J)J" } : Jvm.MethodName) prog_15_method_3_code (4 : Nat) (Option.some Jvm.ClassFile.FieldType.long)).before args0 about1 = true := code_word (m := ⟨2, 1⟩) (meth := k2m1) (c := k2c1) (by decide +kernel) rfl rfl rfl (by decide +kernel)
set_option maxRecDepth 65536 in
theorem w_c2 : (Jvm.Cond.code ({ cls := "com/example/hearsay/hearsay/community/HashesMixPinLaw", name := "unmix", desc := "(J)J" } : Jvm.MethodName) method_3_code (10 : Nat) (Option.some Jvm.ClassFile.FieldType.long)).before args0 about1 = true := code_word (m := ⟨1, 2⟩) (meth := k1m2) (c := k1c2) (by decide +kernel) rfl rfl rfl (by decide +kernel)
set_option maxRecDepth 65536 in
theorem w_c3 : (Jvm.Cond.code ({ cls := "com/example/hearsay/hearsay/community/HashesMixPinLaw", name := "inv", desc := "(J)J" } : Jvm.MethodName) method_2_code (4 : Nat) (Option.some Jvm.ClassFile.FieldType.long)).before args0 about1 = true := code_word (m := ⟨1, 1⟩) (meth := k1m1) (c := k1c1) (by decide +kernel) rfl rfl rfl (by decide +kernel)
def codes1 : List Jvm.Cond := [Jvm.Cond.code x code maxLocals ret, Jvm.Cond.code ({ cls := "com/example/hearsay/hearsay/community/Hashes", name := "mix", desc := "(J)J" } : Jvm.MethodName) prog_15_method_3_code (4 : Nat) (Option.some Jvm.ClassFile.FieldType.long), Jvm.Cond.code ({ cls := "com/example/hearsay/hearsay/community/HashesMixPinLaw", name := "unmix", desc := "(J)J" } : Jvm.MethodName) method_3_code (10 : Nat) (Option.some Jvm.ClassFile.FieldType.long), Jvm.Cond.code ({ cls := "com/example/hearsay/hearsay/community/HashesMixPinLaw", name := "inv", desc := "(J)J" } : Jvm.MethodName) method_2_code (4 : Nat) (Option.some Jvm.ClassFile.FieldType.long)]
set_option maxRecDepth 65536 in
theorem codes_eq : words1.filter isCode = codes1 := rfl
theorem w_codes : ∀ c ∈ words1.filter isCode, c.before args0 about1 = true := by
  rw [codes_eq]
  intro c hc
  simp only [codes1, List.mem_cons, List.not_mem_nil, or_false] at hc
  rcases hc with rfl | rfl | rfl | rfl
  · exact w_c0
  · exact w_c1
  · exact w_c2
  · exact w_c3
set_option maxRecDepth 65536 in
theorem w_t1 : words1.all (fun c => isCode c || c.before args0 about1) = true := by decide +kernel
theorem w_tables : (allAtoms (Jvm.Cond.code x code maxLocals ret :: tables_1)).before args0 about1 = true := by
  rw [allAtoms_all]
  show words1.all (fun c => c.before args0 about1) = true
  refine all_split ?_ w_codes
  rw [w_t1]
set_option maxRecDepth 65536 in
theorem w_case : (Jvm.Cond.and given_1 narrow_1).before args0 about1 = true := by decide +kernel
theorem w_applies : (headSpec (Jvm.Cond.code x code maxLocals ret :: tables_1) room_1).applies x e0.platform about1 = true :=
  (Spec.applies_iff w_frames).mpr ⟨w_running, w_runnable, w_alone, w_named, w_hears, w_ripe, w_room, w_tables⟩
theorem atStart : AtStart classFile x code maxLocals ret World_1 tables_1 room_1 Calls_1 rest_1 Pre_1 launch0 p0 e0 about1 theMethod args0 below0 :=
  ⟨lists_1, trivial, launch0.admits_env _ _ _, launch0.least_env, fairChoices_fair.cas, fairChoices_fair.clock, w_frames, w_args, w_heap, w_applies, trivial, trivial, w_case⟩
end start1
theorem witness_1 : WitnessClaimed_1 := ⟨start1.p0, start1.e0, start1.about1, start1.theMethod, start1.args0, start1.below0, start1.atStart⟩
end Jvm.Pilot.@@N@@
