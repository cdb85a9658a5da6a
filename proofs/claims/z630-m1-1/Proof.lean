import JvmDerived
import JvmDerived.Pilot.@@N@@Statement
import JvmDerived.Pilot.@@N@@Code
set_option linter.unusedVariables false
set_option linter.unusedSimpArgs false
namespace Jvm.Pilot.@@N@@
open Jvm Jvm.ClassFile Sem Op Lib Jvm.Free Jvm.Stand Jvm.LawKit Jvm.RoadKit Bundle Jvm.Pilot.@@N@@.Jvm.D
section Own
variable {p : Program} {l : Launch} {e : Env} {R : Room} {s : State} {m : MethodId} {args : Array Value} {below : List Frame} {meth : Method} {c : Code} {T : State} {locs : List Loc} {cells slots : Nat} {Z : State} {a0 : Array Value} {h h' : Heap}
theorem own_hb {c : ClassFile.Code} {code : ByteArray} (h : c.code = code) {pc : Nat} {r : Except ClassFile.DecodeError (ClassFile.Instr × Nat)} (h2 : ClassFile.decode code pc = r) : ClassFile.decode c.code pc = r := h ▸ h2
/-- from S the run comes to an end of the method of which QQ holds -/
def own_Go (p : Program) (e : Env) (below : List Frame) (S : State) (QQ : Outcome → State → Prop) : Prop :=
  ∃ s₂ o, Steps p.tables e below S s₂ ∧ s₂.status = .running ∧ Ended s₂ below o ∧ QQ o s₂
theorem own_Go.of {S S' : State} {QQ : Outcome → State → Prop} (h : ∀ t, Steps p.tables e below S' t → Steps p.tables e below S t) (g : own_Go p e below S' QQ) : own_Go p e below S QQ := by
  obtain ⟨a, b, h1, h2⟩ := g
  exact ⟨a, b, h _ h1, h2⟩
/-- how a walked body ends: it returns v, with Q of the value, the heap and the places written -/
def own_End (s : State) (Q : Option Value → Heap → List Loc → Prop) (C K : Nat) : Outcome → State → Prop :=
  fun o U' => ∃ v L, o = .returned v ∧ Q v U'.heap L ∧ FrameEnd s o U' L C K
/-- the contract of a body, as RoadKit.backOf takes it -/
abbrev own_Met (l : Launch) (Z : State) (h0 : Heap) (y : MethodName) (bytes : ByteArray) (maxL : Nat) (ret : Option FieldType) (ws : List Jvm.Cond) (rm : Room) (as' : Array Value) (Q : Option Value → Heap → List Loc → Prop) : Prop :=
  MetFree l y (head1 (Jvm.Cond.code y bytes maxL ret :: ws) rm) (fun a U => a = as' ∧ Z.Warmed39 U.vm ∧ U.heap = h0) (fun _ _ _ _ _ => True) (fun _ U o U' => ∃ v L, o = .returned v ∧ Q v U'.heap L ∧ FrameEnd U o U' L rm.cells rm.slots)
theorem own_enter {h0 : Heap} {y : MethodName} {bytes : ByteArray} {maxL : Nat} {ret : Option FieldType} {ws : List Jvm.Cond} {rm : Room} {as' : Array Value} {Q : Option Value → Heap → List Loc → Prop} (hpl : plainFor y = true)
    (body : ∀ (p : Program) (e : Env) (s : State) (m : MethodId) (below : List Frame) (meth : Method) (c : Code) (T0 : State), Stand p l e rm s m as' below meth c T0 [] 0 0 → p.tables.exec = Jvm.exec → c.code = bytes → c.maxLocals = maxL → meth.sig.returnType = ret → meth.locks = false → s.vm.findClass y.cls = some m.cls → meth.name = y.name → Z.Warmed39 s.vm → T0.heap = h0 →
      own_Go p e below (T0.setTop (entryFrame m as' maxL)) (own_End s Q rm.cells rm.slots)) : own_Met l Z h0 y bytes maxL ret ws rm as' Q := by
  refine MetFree.of_bodySF hpl hisR ?_
  intro p e s m args below meth c s₁ Bd hml0 hP hK
  obtain ⟨rfl, hZ, hh⟩ := hP
  exact body p e s m below meth c s₁ (Stand.of_body Bd) Bd.exec Bd.bytes hml0 Bd.returns Bd.notSynchronized (findClass_of_methodNamed Bd.named) (name_of_methodNamed Bd.named Bd.method).1 hZ (by rw [← hh, Bd.state]; rfl)
theorem own_mono (X : Stand p l e R s m args below meth c T locs cells slots) {c' k' : Nat} (hc : cells ≤ c') (hk : slots ≤ k') : Stand p l e R s m args below meth c T locs c' k' :=
  ⟨X.admits, X.cas, X.clock, X.frames, X.room, X.hears, X.method, X.code, X.here, X.tail, X.warmed, X.limits, X.bytes, X.same.mono hc hk⟩
theorem own_leave (X : Stand p l e R s m args below meth c T locs cells slots) (hlk : meth.locks = false) {v : Option Value} {Q : Option Value → Heap → List Loc → Prop} {C K : Nat} {g : JFrame} (hv : meth.sig.returnType = none → v = none)
    (st : ∀ fs, (∀ (f : JFrame) (acts : List Action), f.method = m → f.locked = none → f.entered = [] → (doReturn e (T.setTop f) acts v).1 = T.setFrames fs) → Steps p.tables e below (T.setTop g) (T.setFrames fs))
    (eT : T.heap = h) (hQ : Q v h locs) (hc : cells ≤ C) (hk : slots ≤ K) : own_Go p e below (T.setTop g) (own_End s Q C K) := by
  obtain ⟨fs, hr, hrun, hended, hW, hsame⟩ := X.leave (v := v) hv hlk
  subst eT
  exact ⟨_, _, st fs hr, hrun, hended, v, locs, rfl, hQ, ⟨_, rfl⟩, hW, hsame.mono hc hk⟩
theorem own_retI (X : Stand p l e R s m args below meth c T locs cells slots) (hx : p.tables.exec = Jvm.exec) (hlk : meth.locks = false) {pc : Nat} {Ls : Array Slot} {z : Int32} {rest : List Value} {Q : Option Value → Heap → List Loc → Prop} {C K : Nat} (hret : meth.sig.returnType = some .int) (hd : decode c.code pc = .ok (.ireturn, 1))
    (eT : T.heap = h) (hQ : Q (some (.int z)) h locs) (hc : cells ≤ C) (hk : slots ≤ K) : own_Go p e below (T.setTop (mkF m pc Ls (.int z :: rest))) (own_End s Q C K) := by
  refine own_leave X hlk (fun q => by rw [hret] at q; cases q) (fun fs hl => ?_) eT hQ hc hk
  have hm' : T.vm.method? m = some meth := X.method'
  have hn : narrow .int (.int z) = .int z := rfl
  show Steps p.tables e below (T.setTop { method := m, pc := pc, locals := Ls, stack := _ :: rest, locked := none }) _
  jvm_step X.here [X.here.top, hx, hd, hm', hret, hn]
  first | (intro acts; rw [hl _ acts rfl rfl rfl]) | rw [hl _ _ rfl rfl rfl]
  exact Steps.refl _
theorem own_retN (X : Stand p l e R s m args below meth c T locs cells slots) (hx : p.tables.exec = Jvm.exec) (hlk : meth.locks = false) {pc : Nat} {Ls : Array Slot} {z : Int32} {t : FieldType} {rest : List Value} {Q : Option Value → Heap → List Loc → Prop} {C K : Nat} (hret : meth.sig.returnType = some t) (ht : t = .boolean ∨ t = .byte ∨ t = .char ∨ t = .short) (hd : decode c.code pc = .ok (.ireturn, 1))
    (eT : T.heap = h) (hQ : Q (some (.int (nar t z))) h locs) (hc : cells ≤ C) (hk : slots ≤ K) : own_Go p e below (T.setTop (mkF m pc Ls (.int z :: rest))) (own_End s Q C K) :=
  own_leave X hlk (fun q => by rw [hret] at q; cases q) (fun fs hl => retN X hx hret ht hd hl) eT hQ hc hk
theorem own_retV (X : Stand p l e R s m args below meth c T locs cells slots) (hx : p.tables.exec = Jvm.exec) (hlk : meth.locks = false) {pc : Nat} {Ls : Array Slot} {Q : Option Value → Heap → List Loc → Prop} {C K : Nat} (hret : meth.sig.returnType = none) (hd : decode c.code pc = .ok (.return_, 1))
    (eT : T.heap = h) (hQ : Q none h locs) (hc : cells ≤ C) (hk : slots ≤ K) : own_Go p e below (T.setTop (mkF m pc Ls [])) (own_End s Q C K) :=
  own_leave X hlk (fun _ => rfl) (fun fs hl => X.returnOut hx hret hd hl) eT hQ hc hk
theorem own_retJ (X : Stand p l e R s m args below meth c T locs cells slots) (hx : p.tables.exec = Jvm.exec) (hlk : meth.locks = false) {pc : Nat} {Ls : Array Slot} {z : Int64} {Q : Option Value → Heap → List Loc → Prop} {C K : Nat} (hret : meth.sig.returnType = some .long) (hd : decode c.code pc = .ok (.lreturn, 1))
    (eT : T.heap = h) (hQ : Q (some (.long z)) h locs) (hc : cells ≤ C) (hk : slots ≤ K) : own_Go p e below (T.setTop (mkF m pc Ls [.long z])) (own_End s Q C K) :=
  own_leave X hlk (fun q => by rw [hret] at q; cases q) (fun fs hl => X.lreturnOut hx hret hd hl) eT hQ hc hk
theorem own_retA (X : Stand p l e R s m args below meth c T locs cells slots) (hx : p.tables.exec = Jvm.exec) (hlk : meth.locks = false) {pc : Nat} {Ls : Array Slot} {v : Value} {t : FieldType} {rest : List Value} {Q : Option Value → Heap → List Loc → Prop} {C K : Nat} (hret : meth.sig.returnType = some t) (ht : t.isReference = true) (hv : v.isRef = true) (hd : decode c.code pc = .ok (.areturn, 1))
    (eT : T.heap = h) (hQ : Q (some v) h locs) (hc : cells ≤ C) (hk : slots ≤ K) : own_Go p e below (T.setTop (mkF m pc Ls (v :: rest))) (own_End s Q C K) := by
  refine own_leave X hlk (fun q => by rw [hret] at q; cases q) (fun fs hl => ?_) eT hQ hc hk
  have hm' : T.vm.method? m = some meth := X.method'
  show Steps p.tables e below (T.setTop { method := m, pc := pc, locals := Ls, stack := _ :: rest, locked := none }) _
  jvm_step X.here [X.here.top, hx, hd, hm', hret, ht, hv]
  first | (intro acts; rw [hl _ acts rfl rfl rfl]) | rw [hl _ _ rfl rfl rfl]
  exact Steps.refl _
/-! an array whose place i holds f i -/
def own_Ar (Z : State) (h : Heap) (a : Addr) (ty : FieldType) (n : Nat) (f : Nat → Value) : Prop :=
  n < 2 ^ 31 ∧ ∃ c : Cell, Arr Z h a c ty ∧ c.slots.size = n ∧ ∀ i, i < n → c.slots[i]? = some (f i) ∧ fits ty (f i) = true
def own_up (f : Nat → Value) (k : Nat) (v : Value) : Nat → Value := fun i => if i = k then v else f i
def own_I (g : Nat → Int32) : Nat → Value := fun j => .int (g j)
def own_set (g : Nat → Int32) (k : Nat) (x : Int32) : Nat → Int32 := fun j => if j = k then x else g j
theorem own_upI {g : Nat → Int32} {k : Nat} {x : Int32} : own_up (own_I g) k (.int x) = own_I (own_set g k x) := by
  funext j
  unfold own_up own_I own_set
  by_cases q : j = k
  · rw [if_pos q, if_pos q]
  · rw [if_neg q, if_neg q]
section Arrays
variable {a b : Addr} {ty : FieldType} {n k : Nat} {f : Nat → Value} {v : Value} {ws : List Addr} {sl : Nat} {j : Int32}
theorem own_Ar.lt (F : own_Ar Z h a ty n f) : a < h.size := by obtain ⟨_, c, A, _⟩ := F; exact A.lt
theorem own_Ar.ext (F : own_Ar Z h a ty n f) (E : Ext h h') : own_Ar Z h' a ty n f := by obtain ⟨q, c, A, r⟩ := F; exact ⟨q, c, A.ext E, r⟩
theorem own_Ar.other (F : own_Ar Z h b ty n f) (W : Wr h h' a sl v) (q : b ≠ a) : own_Ar Z h' b ty n f := by obtain ⟨q0, c, A, r⟩ := F; exact ⟨q0, c, A.other W q, r⟩
theorem own_Ar.keep (F : own_Ar Z h a ty n f) (K : Keep h h' ws) (q : a ∉ ws) : own_Ar Z h' a ty n f := by obtain ⟨q0, c, A, r⟩ := F; exact ⟨q0, c, ⟨K.2.1 a c A.1 q, A.2⟩, r⟩
theorem own_Ar.eqv {g : Nat → Value} (F : own_Ar Z h a ty n f) (q : ∀ i, i < n → f i = g i) : own_Ar Z h a ty n g := by
  obtain ⟨q0, c, A, r1, r2⟩ := F; exact ⟨q0, c, A, r1, fun i hi => by rw [← q i hi]; exact r2 i hi⟩
theorem own_Ar.eqvI {g g' : Nat → Int32} (F : own_Ar Z h a ty n (own_I g)) (q : ∀ i, i < n → g i = g' i) : own_Ar Z h a ty n (own_I g') := F.eqv fun i hi => by show Value.int _ = Value.int _; rw [q i hi]
theorem own_clamp (hk : k < 2 ^ 31) : (Int32.ofNat k).toNatClampNeg = k ∧ ¬ Int32.ofNat k < 0 := by
  have e : (Int32.ofNat k).toInt = (k : Int) := Int32.toInt_ofNat_of_lt hk
  refine ⟨?_, ?_⟩
  · show (Int32.ofNat k).toInt.toNat = k
    rw [e]; rfl
  · rw [Int32.lt_iff_toInt_lt, e]
    show ¬ ((k : Int) < 0)
    omega
theorem own_inb {cl : Cell} (S : cl.slots.size = n) (hn : n < 2 ^ 31) (e : j = Int32.ofNat k) (hk : k < n) : ¬ (j < 0 ∨ cl.slots.size ≤ j.toNatClampNeg) := by
  subst e
  obtain ⟨e1, e2⟩ := own_clamp (k := k) (by omega)
  rw [e1, S]
  rintro (q | q)
  · exact e2 q
  · omega
theorem own_Ar.get (F : own_Ar Z h a ty n f) (q : j = Int32.ofNat k ∧ k < n) : ∃ cl : Cell, Arr Z h a cl ty ∧ ¬ (j < 0 ∨ cl.slots.size ≤ j.toNatClampNeg) ∧ cl.slots[j.toNatClampNeg]? = some (f k) := by
  obtain ⟨hn, c, A, S, H⟩ := F
  refine ⟨c, A, own_inb S hn q.1 q.2, ?_⟩
  rw [q.1, (own_clamp (k := k) (by omega)).1]
  exact (H k q.2).1
theorem own_Ar.len (F : own_Ar Z h a ty n f) : ∃ cl : Cell, Arr Z h a cl ty ∧ cl.slots.size.toInt32 = Int32.ofNat n := by
  obtain ⟨hn, c, A, S, H⟩ := F
  refine ⟨c, A, ?_⟩
  rw [S]
theorem own_Ar.put (F : own_Ar Z h a ty n f) (q : j = Int32.ofNat k ∧ k < n) : ∃ cl : Cell, Arr Z h a cl ty ∧ ¬ (j < 0 ∨ cl.slots.size ≤ j.toNatClampNeg) ∧ ∀ {v : Value} {h' : Heap}, fits ty v = true → Wr h h' a j.toNatClampNeg v → own_Ar Z h' a ty n (own_up f k v) := by
  obtain ⟨hn, c, A, S, H⟩ := F
  refine ⟨c, A, own_inb S hn q.1 q.2, fun {v h'} hv W => ⟨hn, _, A.same W, by rw [sz_set]; exact S, fun i hi => ?_⟩⟩
  rw [q.1, (own_clamp (k := k) (by omega)).1]
  by_cases u : i = k
  · subst u
    simp [own_up, Cell.setSlot, S, hi, hv]
  · have u' : ¬ k = i := fun z => u z.symm
    simp only [own_up, u, if_false, Cell.setSlot, Array.getElem?_setIfInBounds, u']
    exact H i hi
theorem own_newP (X : Stand p l e R s m args below meth c T locs cells slots) (hx : p.tables.exec = Jvm.exec) (hZ : Z.Warmed39 s.vm) {aty : ArrayType} (w : (Cond.arrayClass (newarray.typeOf aty)).before a0 Z = true) (eT : T.heap = h) {g : JFrame} (hg : g.method = m) (hd : decode c.code g.pc = .ok (.newarray aty, 2)) {z : Int32} {rest : List Value} (hs : g.stack = .int z :: rest)
    {n cap : Nat} (hz : z = Int32.ofNat n) (hn : n ≤ cap) (hb : cap * 8 ≤ 536870912) (hc : cells + 1 ≤ R.cells) (hl : slots + cap ≤ R.slots) :
    ∃ T' h', Stand p l e R s m args below meth c T' locs (cells + 1) (slots + cap) ∧ T'.heap = h' ∧ Ext h h' ∧ own_Ar Z h' h.size (newarray.typeOf aty) n (fun _ => defaultValue (newarray.typeOf aty)) ∧
      ∀ target, Steps p.tables e below (T'.setTop { g with pc := g.pc + 2, stack := .ref h.size :: rest }) target → Steps p.tables e below (T.setTop g) target := by
  obtain ⟨e1, e2⟩ := own_clamp (k := n) (by omega)
  subst hz
  obtain ⟨T', h', cA, X', e', E, A, st⟩ := newP X hx hZ w eT hg hd hs e2 (cap := cap) (by rw [e1]; exact hn) hb hc hl
  refine ⟨T', h', X', e', E, ⟨by omega, _, A, by rw [sz_new, e1], fun i hi => ⟨?_, by cases aty <;> rfl⟩⟩, st⟩
  simp [newA, e1, hi]
end Arrays
theorem own_st1 {l : Array Slot} {i : Nat} {v : Value} {o : Slot} (hold : l[i]? = some o) (ho : o = .unset ∨ ∃ w, o = .val w ∧ w.category = 1) (hv : v.category = 1) : storeLocals l i v = some (l.setIfInBounds i (.val v)) := XS.store1 hold ho hv
/-- the cell at x stands as it stood -/
def own_Kx (h h' : Heap) (x : Addr) : Prop := h.size ≤ h'.size ∧ ∀ c : Cell, h[x]? = some c → h'[x]? = some c
section Kx
variable {x a : Addr} {h2 : Heap} {sl : Nat} {v : Value} {ws : List Addr}
theorem own_Kx.refl : own_Kx h h x := ⟨Nat.le_refl _, fun _ q => q⟩
theorem own_Kx.ext (K : own_Kx h h' x) (E : Ext h' h2) : own_Kx h h2 x := ⟨Nat.le_trans K.1 E.1, fun c q => E.2 _ _ (K.2 c q)⟩
theorem own_Kx.keep (K : own_Kx h h' x) (K' : Keep h' h2 ws) (q : x ∉ ws) : own_Kx h h2 x := ⟨Nat.le_trans K.1 K'.1, fun c r => K'.2.1 _ _ (K.2 c r) q⟩
theorem own_Kx.wr (K : own_Kx h h' x) (W : Wr h' h2 a sl v) (q : x ≠ a) : own_Kx h h2 x := K.keep (Keep.of_wr W) (ninS q nin0)
theorem own_Kx.trans (K : own_Kx h h' x) (K' : own_Kx h' h2 x) : own_Kx h h2 x := ⟨Nat.le_trans K.1 K'.1, fun c r => K'.2 _ (K.2 c r)⟩
theorem own_Ar.kx {ty : FieldType} {n : Nat} {f : Nat → Value} (F : own_Ar Z h x ty n f) (K : own_Kx h h' x) : own_Ar Z h' x ty n f := by obtain ⟨q0, c, A, r⟩ := F; exact ⟨q0, c, ⟨K.2 c A.1, A.2⟩, r⟩
theorem own_Ek {C : String} (F : Exa Z h x C) (K : own_Kx h h' x) : Exa Z h' x C := by obtain ⟨cell, k, h1, r⟩ := F; exact ⟨cell, k, K.2 _ h1, r⟩
def own_Lt (h : Heap) (x : Addr) : Prop := x < h.size
theorem own_Lt.lt (q : own_Lt h x) : x < h.size := q
theorem own_Lt.ext (q : own_Lt h x) (E : Ext h h') : own_Lt h' x := Nat.lt_of_lt_of_le q E.1
theorem own_Lt.keep (q : own_Lt h x) (K : Keep h h' ws) : own_Lt h' x := Nat.lt_of_lt_of_le q K.1
theorem own_Lt.wr (q : own_Lt h x) (W : Wr h h' a sl v) : own_Lt h' x := q.keep (Keep.of_wr W)
theorem own_Lt.le (q : own_Lt h x) (K : h.size ≤ h'.size) : own_Lt h' x := Nat.lt_of_lt_of_le q K
theorem own_Lt.kx {y : Addr} (q : own_Lt h x) (K : own_Kx h h' y) : own_Lt h' x := Nat.lt_of_lt_of_le q K.1
end Kx
/-! numbers: small naturals as ints -/
theorem own_toInt {a : Nat} (ha : a < 2 ^ 31) : (Int32.ofNat a).toInt = (a : Int) := Int32.toInt_ofNat_of_lt ha
theorem own_mask (x : Int32) (m : Nat) : ∃ k : Nat, k ≤ m ∧ (x &&& Int32.ofNat m) = Int32.ofNat k := by
  refine ⟨(x.toBitVec.toNat &&& (m % 2 ^ 32)), Nat.le_trans Nat.and_le_right (Nat.mod_le _ _), ?_⟩
  apply Int32.toBitVec_inj.mp
  apply BitVec.eq_of_toNat_eq
  rw [Int32.toBitVec_and, BitVec.toNat_and]
  show _ &&& (BitVec.ofNat 32 m).toNat = (BitVec.ofNat 32 _).toNat
  rw [BitVec.toNat_ofNat, BitVec.toNat_ofNat]
  rw [Nat.mod_eq_of_lt (a := _ &&& _)]
  exact Nat.lt_of_le_of_lt Nat.and_le_right (Nat.mod_lt _ (by decide))
theorem own_ltN {a b : Nat} (ha : a < 2 ^ 31) (hb : b < 2 ^ 31) : Int32.ofNat a < Int32.ofNat b ↔ a < b := by
  rw [Int32.lt_iff_toInt_lt, own_toInt ha, own_toInt hb]; omega
theorem own_eqN' {a b : Nat} (h : a = b) : Int32.ofNat a = Int32.ofNat b := by rw [h]
theorem own_eqN {a b : Nat} (ha : a < 2 ^ 31) (hb : b < 2 ^ 31) : Int32.ofNat a = Int32.ofNat b ↔ a = b := by
  constructor
  · intro h
    have h2 := congrArg Int32.toInt h
    rw [own_toInt ha, own_toInt hb] at h2; omega
  · exact own_eqN'
theorem own_addN (a b : Nat) : Int32.ofNat a + Int32.ofNat b = Int32.ofNat (a + b) := (Int32.ofNat_add a b).symm
theorem own_subN {a b : Nat} (h : b ≤ a) : Int32.ofNat a - Int32.ofNat b = Int32.ofNat (a - b) := by
  have h2 : Int32.ofNat a = Int32.ofNat (a - b) + Int32.ofNat b := by rw [own_addN]; congr 1; omega
  rw [h2, Int32.add_sub_cancel]
theorem own_nzN {a : Nat} (h0 : 0 < a) (ha : a < 2 ^ 31) : Int32.ofNat a ≠ (0 : Int32) := by
  intro h
  have h2 : Int32.ofNat a = Int32.ofNat 0 := h
  rw [own_eqN ha (by decide)] at h2; omega
theorem own_remN {a b : Nat} (ha : a < 2 ^ 31) (hb : b < 2 ^ 31) : (Int32.ofNat a - (Int32.ofNat a / Int32.ofNat b) * Int32.ofNat b) = Int32.ofNat (a % b) := by
  apply Int32.toInt_inj.mp
  have hm : a % b < 2 ^ 31 := Nat.lt_of_le_of_lt (Nat.mod_le _ _) ha
  rw [rem_toInt, own_toInt ha, own_toInt hb, own_toInt hm]
  exact (Int.ofNat_tmod a b).symm
theorem own_bm (x : Int) (h1 : -2147483648 ≤ x) (h2 : x < 2147483648) : x.bmod (2 ^ 32) = x := Int.bmod_eq_of_le (by omega) (by omega)
theorem own_bm64 (x : Int) (h1 : -9223372036854775808 ≤ x) (h2 : x < 9223372036854775808) : x.bmod (2 ^ 64) = x := Int.bmod_eq_of_le (by omega) (by omega)
theorem own_dup2 {tb : Tables} [Ours tb] {e : Env} {below : List Frame} {T target : State} {m : MethodId} {c : Code} {g : JFrame} (h : At T m c below) (hx : tb.exec = Jvm.exec) (hg : g.method = m) {v1 v2 : Value} {rest : List Value} (hd : decode c.code g.pc = .ok (.dup2, 1)) (hs : g.stack = v1 :: v2 :: rest) (hc : v1.category = 1) (hc2 : v2.category = 1)
    (hr : Steps tb e below (T.setTop { g with pc := g.pc + 1, stack := v1 :: v2 :: v1 :: v2 :: rest }) target) : Steps tb e below (T.setTop g) target := by
  subst hg
  jvm_step h [h.top, hx, hd, hs, hc, hc2]
  exact hr
end Own
/-! arrays of naturals -/
def own_N (g : Nat → Nat) : Nat → Int32 := fun j => Int32.ofNat (g j)
def own_ns (g : Nat → Nat) (k v : Nat) : Nat → Nat := fun j => if j = k then v else g j
theorem own_NI {g : Nat → Nat} {k v : Nat} : own_up (own_I (own_N g)) k (.int (Int32.ofNat v)) = own_I (own_N (own_ns g k v)) := by
  funext j
  unfold own_up own_I own_N own_ns
  by_cases q : j = k
  · rw [if_pos q, if_pos q]
  · rw [if_neg q, if_neg q]
theorem own_ns_same (g : Nat → Nat) (k v : Nat) : own_ns g k v k = v := if_pos rfl
theorem own_ns_other {g : Nat → Nat} {k v j : Nat} (q : j ≠ k) : own_ns g k v j = g j := if_neg q
/-! the counting sort, in plain words -/
def own_C1 (key : Nat → Nat) : Nat → Nat → Nat
  | 0 => fun _ => 0
  | i + 1 => own_ns (own_C1 key i) (key i + 1) (own_C1 key i (key i + 1) + 1)
def own_C2 (f : Nat → Nat) : Nat → Nat → Nat
  | 0 => f
  | k + 1 => own_ns (own_C2 f k) (k + 1) (own_C2 f k (k + 1) + own_C2 f k k)
def own_St (f key : Nat → Nat) : Nat → Nat → Nat
  | 0 => f
  | i + 1 => own_ns (own_St f key i) (key i) (own_St f key i (key i) + 1)
def own_So (f key g : Nat → Nat) : Nat → Nat → Nat
  | 0 => fun _ => 0
  | i + 1 => own_ns (own_So f key g i) (own_St f key i (key i)) (g i)
/-- how many of the first i keys are v, are below v -/
def own_cn (key : Nat → Nat) (v : Nat) : Nat → Nat
  | 0 => 0
  | i + 1 => own_cn key v i + (if key i = v then 1 else 0)
def own_lo (key : Nat → Nat) (v : Nat) : Nat → Nat
  | 0 => 0
  | i + 1 => own_lo key v i + (if key i < v then 1 else 0)
def own_rank (key : Nat → Nat) (n j : Nat) : Nat := own_lo key (key j) n + own_cn key (key j) j
theorem own_c1 (key : Nat → Nat) (i : Nat) : own_C1 key i 0 = 0 ∧ ∀ v, own_C1 key i (v + 1) = own_cn key v i := by
  induction i with
  | zero => exact ⟨rfl, fun _ => rfl⟩
  | succ i ih =>
    refine ⟨(own_ns_other (by omega)).trans ih.1, fun v => ?_⟩
    show own_ns (own_C1 key i) (key i + 1) (own_C1 key i (key i + 1) + 1) (v + 1) = own_cn key v i + (if key i = v then 1 else 0)
    by_cases q : key i = v
    · subst q
      rw [own_ns_same, ih.2, if_pos rfl]
    · rw [own_ns_other (by omega), ih.2, if_neg q]; rfl
theorem own_lo_succ (key : Nat → Nat) (v n : Nat) : own_lo key (v + 1) n = own_lo key v n + own_cn key v n := by
  induction n with
  | zero => rfl
  | succ n ih =>
    show own_lo key (v + 1) n + (if key n < v + 1 then 1 else 0) = own_lo key v n + (if key n < v then 1 else 0) + (own_cn key v n + (if key n = v then 1 else 0))
    rw [ih]
    by_cases q : key n < v
    · rw [if_pos q, if_pos (by omega), if_neg (by omega)]; omega
    · rw [if_neg q]
      by_cases q2 : key n = v
      · rw [if_pos q2, if_pos (by omega)]; omega
      · rw [if_neg q2, if_neg (by omega)]; omega
theorem own_lo_zero (key : Nat → Nat) (n : Nat) : own_lo key 0 n = 0 := by
  induction n with
  | zero => rfl
  | succ n ih =>
    show own_lo key 0 n + (if key n < 0 then 1 else 0) = 0
    rw [ih, if_neg (by omega), Nat.add_zero]
theorem own_c2 (key : Nat → Nat) (n k : Nat) : ∀ v, own_C2 (own_C1 key n) k v = if v ≤ k then own_lo key v n else own_C1 key n v := by
  induction k with
  | zero =>
    intro v
    show own_C1 key n v = _
    by_cases q : v ≤ 0
    · obtain rfl : v = 0 := by omega
      rw [if_pos q, own_lo_zero]; exact (own_c1 key n).1
    · rw [if_neg q]
  | succ k ih =>
    intro v
    show own_ns (own_C2 (own_C1 key n) k) (k + 1) (own_C2 (own_C1 key n) k (k + 1) + own_C2 (own_C1 key n) k k) v = _
    by_cases q : v = k + 1
    · subst q
      rw [own_ns_same, ih, ih, if_neg (by omega), if_pos (Nat.le_refl _), if_pos (Nat.le_refl _), (own_c1 key n).2, own_lo_succ]; omega
    · rw [own_ns_other q, ih]
      by_cases q2 : v ≤ k
      · rw [if_pos q2, if_pos (by omega)]
      · rw [if_neg q2, if_neg (by omega)]
theorem own_st (f key : Nat → Nat) (i : Nat) : ∀ v, own_St f key i v = f v + own_cn key v i := by
  induction i with
  | zero => intro v; rfl
  | succ i ih =>
    intro v
    show own_ns (own_St f key i) (key i) (own_St f key i (key i) + 1) v = f v + (own_cn key v i + (if key i = v then 1 else 0))
    by_cases q : key i = v
    · subst q
      rw [own_ns_same, ih, if_pos rfl]; omega
    · rw [own_ns_other (fun z => q z.symm), ih, if_neg q]; omega
theorem own_cn_mono (key : Nat → Nat) (v : Nat) {i j : Nat} (h : i ≤ j) : own_cn key v i ≤ own_cn key v j := by
  induction j with
  | zero => obtain rfl : i = 0 := by omega
            exact Nat.le_refl _
  | succ j ih =>
    by_cases q : i = j + 1
    · rw [q]; exact Nat.le_refl _
    · exact Nat.le_trans (ih (by omega)) (Nat.le_add_right _ _)
theorem own_cn_lt (key : Nat → Nat) {i j : Nat} (h : i < j) : own_cn key (key i) i < own_cn key (key i) j := by
  have h1 : own_cn key (key i) (i + 1) = own_cn key (key i) i + 1 := by
    show own_cn key (key i) i + (if key i = key i then 1 else 0) = _
    rw [if_pos rfl]
  have h2 := own_cn_mono key (key i) (i := i + 1) (j := j) h
  omega
theorem own_lo_mono (key : Nat → Nat) (n : Nat) {v w : Nat} (h : v ≤ w) : own_lo key v n ≤ own_lo key w n := by
  induction w with
  | zero => obtain rfl : v = 0 := by omega
            exact Nat.le_refl _
  | succ w ih =>
    by_cases q : v = w + 1
    · rw [q]; exact Nat.le_refl _
    · rw [own_lo_succ]; have := ih (by omega); omega
theorem own_lo_le (key : Nat → Nat) (v n : Nat) : own_lo key v n ≤ n := by
  induction n with
  | zero => exact Nat.le_refl _
  | succ n ih =>
    show own_lo key v n + (if key n < v then 1 else 0) ≤ n + 1
    by_cases q : key n < v
    · rw [if_pos q]; omega
    · rw [if_neg q]; omega
theorem own_rank_lt (key : Nat → Nat) {n j : Nat} (hj : j < n) : own_rank key n j < n := by
  have h1 := own_lo_succ key (key j) n
  have h2 := own_lo_le key (key j + 1) n
  have h3 := own_cn_lt key hj
  unfold own_rank; omega
theorem own_rank_below (key : Nat → Nat) {n i j : Nat} (hi : i < n) (h : key i < key j) : own_rank key n i < own_rank key n j := by
  have h1 := own_lo_succ key (key i) n
  have h2 := own_lo_mono key n (v := key i + 1) (w := key j) h
  have h3 := own_cn_lt key hi
  unfold own_rank; omega
theorem own_rank_ne (key : Nat → Nat) {n i j : Nat} (hi : i < j) (hj : j < n) : own_rank key n i ≠ own_rank key n j := by
  by_cases q : key i < key j
  · have := own_rank_below key (n := n) (by omega) q; omega
  · by_cases q2 : key j < key i
    · have := own_rank_below key (n := n) hj q2; omega
    · have e : key j = key i := by omega
      have h := own_cn_lt key hi
      unfold own_rank
      rw [e]; omega
theorem own_at (key : Nat → Nat) (n rg : Nat) (hk : ∀ j, j < n → key j < rg) (i : Nat) (hi : i < n) : own_St (own_C2 (own_C1 key n) rg) key i (key i) = own_rank key n i := by
  rw [own_st, own_c2, if_pos (Nat.le_of_lt (hk i hi))]; rfl
theorem own_place (key : Nat → Nat) (n rg : Nat) (hk : ∀ j, j < n → key j < rg) (i : Nat) (hi : i < n) : own_St (own_C2 (own_C1 key n) rg) key i (key i) < n := by
  rw [own_at key n rg hk i hi]; exact own_rank_lt key hi
theorem own_sorted (key g : Nat → Nat) (n rg : Nat) (hk : ∀ j, j < n → key j < rg) (j : Nat) (hj : j < n) : own_rank key n j < n ∧ own_So (own_C2 (own_C1 key n) rg) key g n (own_rank key n j) = g j := by
  refine ⟨own_rank_lt key hj, ?_⟩
  have h : ∀ i, i ≤ n → ∀ j, j < i → own_So (own_C2 (own_C1 key n) rg) key g i (own_rank key n j) = g j := by
    intro i
    induction i with
    | zero => intro _ j q; omega
    | succ i ih =>
      intro hi j hj
      show own_ns (own_So (own_C2 (own_C1 key n) rg) key g i) (own_St (own_C2 (own_C1 key n) rg) key i (key i)) (g i) (own_rank key n j) = g j
      rw [own_at key n rg hk i (by omega)]
      by_cases q : j = i
      · rw [q, own_ns_same]
      · rw [own_ns_other (own_rank_ne key (by omega) (by omega))]
        exact ih (by omega) j (by omega)
  exact h n (Nat.le_refl _) j hj
def own_bf (g : Nat → Nat) (n i j : Nat) : Nat := if j < n ∧ (g j < g i ∨ (g j = g i ∧ j < i)) then 1 else 0
def own_rk (g : Nat → Nat) (n i : Nat) : Nat := own_bf g n i 0 + own_bf g n i 1 + own_bf g n i 2 + own_bf g n i 3
def own_sb (g : Nat → Nat) (n i : Nat) : Nat → Nat
  | 0 => 0
  | m + 1 => own_sb g n i m + own_bf g n i m
theorem own_sb_rank (g : Nat → Nat) (n i : Nat) (hi : i < n) (m : Nat) (hm : m ≤ n) : own_sb g n i m = own_lo g (g i) m + own_cn g (g i) (min m i) := by
  induction m with
  | zero => rw [Nat.zero_min]; rfl
  | succ m ih =>
    show own_sb g n i m + own_bf g n i m = own_lo g (g i) m + (if g m < g i then 1 else 0) + own_cn g (g i) (min (m + 1) i)
    rw [ih (by omega)]
    unfold own_bf
    by_cases q : m < i
    · rw [Nat.min_eq_left (Nat.le_of_lt q), Nat.min_eq_left (show m + 1 ≤ i from q)]
      show _ = _ + (own_cn g (g i) m + (if g m = g i then 1 else 0))
      by_cases q1 : g m < g i
      · rw [if_pos q1, if_neg (show ¬ g m = g i by omega), if_pos (show m < n ∧ (g m < g i ∨ (g m = g i ∧ m < i)) from ⟨hm, Or.inl q1⟩)]; omega
      · rw [if_neg q1]
        by_cases q2 : g m = g i
        · rw [if_pos q2, if_pos (show m < n ∧ (g m < g i ∨ (g m = g i ∧ m < i)) from ⟨hm, Or.inr ⟨q2, q⟩⟩)]; omega
        · rw [if_neg q2, if_neg (show ¬ (m < n ∧ (g m < g i ∨ (g m = g i ∧ m < i))) by omega)]; omega
    · rw [Nat.min_eq_right (show i ≤ m by omega), Nat.min_eq_right (show i ≤ m + 1 by omega)]
      by_cases q1 : g m < g i
      · rw [if_pos q1, if_pos (show m < n ∧ (g m < g i ∨ (g m = g i ∧ m < i)) from ⟨hm, Or.inl q1⟩)]; omega
      · rw [if_neg q1, if_neg (show ¬ (m < n ∧ (g m < g i ∨ (g m = g i ∧ m < i))) by omega)]; omega
theorem own_sb_up (g : Nat → Nat) (n i k : Nat) : own_sb g n i (n + k) = own_sb g n i n := by
  induction k with
  | zero => rfl
  | succ k ih =>
    show own_sb g n i (n + k) + own_bf g n i (n + k) = _
    unfold own_bf
    rw [ih, if_neg (by omega), Nat.add_zero]
theorem own_lo_eq {f g : Nat → Nat} (v n : Nat) (h : ∀ j, j < n → f j = g j) : own_lo f v n = own_lo g v n := by
  induction n with
  | zero => rfl
  | succ n ih =>
    show own_lo f v n + (if f n < v then 1 else 0) = own_lo g v n + (if g n < v then 1 else 0)
    rw [ih (fun j q => h j (by omega)), h n (by omega)]
theorem own_cn_eq {f g : Nat → Nat} (v n : Nat) (h : ∀ j, j < n → f j = g j) : own_cn f v n = own_cn g v n := by
  induction n with
  | zero => rfl
  | succ n ih =>
    show own_cn f v n + (if f n = v then 1 else 0) = own_cn g v n + (if g n = v then 1 else 0)
    rw [ih (fun j q => h j (by omega)), h n (by omega)]
theorem own_rk_rank (kg key : Nat → Nat) (n i : Nat) (hn : n ≤ 4) (hi : i < n) (e : ∀ j, j < 4 → kg j = key j) : own_rk kg n i = own_rank key n i := by
  have h1 : own_rk kg n i = own_sb kg n i 4 := by
    show _ = 0 + own_bf kg n i 0 + own_bf kg n i 1 + own_bf kg n i 2 + own_bf kg n i 3
    unfold own_rk; omega
  rw [h1, show 4 = n + (4 - n) by omega, own_sb_up, own_sb_rank kg n i hi n (Nat.le_refl _), Nat.min_eq_right (Nat.le_of_lt hi)]
  unfold own_rank
  rw [e i (by omega), own_lo_eq (key i) n (fun j q => e j (by omega)), own_cn_eq (key i) i (fun j q => e j (by omega))]

theorem d1_0 : decode method_4_code 0 = .ok (.iload_n 2, 1) := by decide +kernel
theorem d1_1 : decode method_4_code 1 = .ok (.ifCond .ne 5, 3) := by decide +kernel
theorem d1_4 : decode method_4_code 4 = .ok (.iconst 0, 1) := by decide +kernel
theorem d1_5 : decode method_4_code 5 = .ok (.ireturn, 1) := by decide +kernel
theorem d1_6 : decode method_4_code 6 = .ok (.iload_n 0, 1) := by decide +kernel
theorem d1_7 : decode method_4_code 7 = .ok (.bipush 8, 2) := by decide +kernel
theorem d1_9 : decode method_4_code 9 = .ok (.iload_n 1, 1) := by decide +kernel
theorem d1_10 : decode method_4_code 10 = .ok (.imul, 1) := by decide +kernel
theorem d1_11 : decode method_4_code 11 = .ok (.iushr, 1) := by decide +kernel
theorem d1_12 : decode method_4_code 12 = .ok (.sipush 255, 3) := by decide +kernel
theorem d1_15 : decode method_4_code 15 = .ok (.iand, 1) := by decide +kernel
theorem d1_16 : decode method_4_code 16 = .ok (.iload_n 2, 1) := by decide +kernel
theorem d1_17 : decode method_4_code 17 = .ok (.irem, 1) := by decide +kernel
theorem d1_18 : decode method_4_code 18 = .ok (.ireturn, 1) := by decide +kernel
theorem pn_1 : plainName "com/example/sagasu/sagasu/CountingSortByKeyPinLaw" = true := by first | (simp [plainName, overriddenIn]; done) | decide +kernel
def Q_rm1 (Z : State) (u : Int32) (i : Int32) (rg : Nat) (h0 : Heap) (n0 : Nat) (v : Option Value) (h : Heap) (L : List Loc) : Prop := ∃ kv : Nat, v = some (.int (Int32.ofNat kv)) ∧ Fr n0 L ∧ h = h0 ∧ ((rg = 0 ∧ kv = 0) ∨ kv < rg)
set_option maxRecDepth 65536 in
set_option maxHeartbeats 40000000 in
theorem rm1 (l : Launch) (Z : State) (a0 : Array Value) (hw : ∀ d ∈ tables_1, d.before a0 Z = true) (ws : List Jvm.Cond) (u : Int32) (i : Int32) (rg : Nat) (h0 : Heap) (n0 : Nat) (Z0 : n0 ≤ h0.size) (hrg : rg ≤ 7) :
    own_Met l Z h0 (⟨"com/example/sagasu/sagasu/CountingSortByKeyPinLaw", "key", "(III)I"⟩ : MethodName) method_4_code 3 (some .int) ws ({ frames := 0, cells := 0, slots := 0, locals := 0 } : Room) #[(.int u), (.int i), (.int (Int32.ofNat rg))] (Q_rm1 Z u i rg h0 n0) := by
  refine own_enter (plainFor_of_name pn_1) ?_
  intro p e s m below meth c T0 X0 hx hby hml hret hlk hown hnm hZ e0
  have N0 := Fr.nil n0
  rw [show entryFrame m #[(.int u), (.int i), (.int (Int32.ofNat rg))] 3 = (mkF m 0 #[.val (.int u), .val (.int i), .val (.int (Int32.ofNat rg))] []) from by first | (simp [entryFrame, mkF, argsToLocals, Value.category]; done) | rfl]
  refine own_Go.of (S' := (T0.setTop (mkF m 1 #[.val (.int u), .val (.int i), .val (.int (Int32.ofNat rg))] [(.int (Int32.ofNat rg))]))) (fun t kt => ?_) ?_
  · show Steps p.tables e below (T0.setTop (mkF m 0 #[.val (.int u), .val (.int i), .val (.int (Int32.ofNat rg))] [])) _
    refine XS.iloadN X0.here hx rfl (own_hb hby d1_0) rfl ?_
    exact kt
  by_cases hc1_1 : rg = 0
  · skip
    refine own_Go.of (S' := (T0.setTop (mkF m 5 #[.val (.int u), .val (.int i), .val (.int (Int32.ofNat rg))] [(.int (0 : Int32))]))) (fun t kt => ?_) ?_
    · show Steps p.tables e below (T0.setTop (mkF m 1 #[.val (.int u), .val (.int i), .val (.int (Int32.ofNat rg))] [(.int (Int32.ofNat rg))])) _
      refine XS.ifNo X0.here hx rfl (own_hb hby d1_1) rfl ((if0 _ _).trans (teq (own_eqN' hc1_1)).2) ?_
      show Steps p.tables e below (T0.setTop (mkF m 4 #[.val (.int u), .val (.int i), .val (.int (Int32.ofNat rg))] [])) _
      refine XS.iconst X0.here hx rfl (own_hb hby d1_4) ?_
      exact kt
    exact own_retI X0 hx hlk hret (own_hb hby d1_5) e0 ⟨0, rfl, N0, rfl, Or.inl ⟨hc1_1, rfl⟩⟩ (by decide) (by decide)
  · skip
    refine own_Go.of (S' := (T0.setTop (mkF m 16 #[.val (.int u), .val (.int i), .val (.int (Int32.ofNat rg))] [(.int (((u.toUInt32 >>> (((8 : Int32) * i) &&& 31).toUInt32).toInt32) &&& (255 : Int32)))]))) (fun t kt => ?_) ?_
    · show Steps p.tables e below (T0.setTop (mkF m 1 #[.val (.int u), .val (.int i), .val (.int (Int32.ofNat rg))] [(.int (Int32.ofNat rg))])) _
      refine XS.ifYes X0.here hx rfl (pc0 := 1) (pc' := 6) rfl (own_hb hby d1_1) rfl ((if0 _ _).trans (feq (fun q => hc1_1 ((own_eqN (by omega) (by omega)).mp q))).2) (by decide) (by decide) ?_
      show Steps p.tables e below (T0.setTop (mkF m 6 #[.val (.int u), .val (.int i), .val (.int (Int32.ofNat rg))] [])) _
      refine XS.iloadN X0.here hx rfl (own_hb hby d1_6) rfl ?_
      show Steps p.tables e below (T0.setTop (mkF m 7 #[.val (.int u), .val (.int i), .val (.int (Int32.ofNat rg))] [(.int u)])) _
      refine XS.bipush X0.here hx rfl (own_hb hby d1_7) ?_
      show Steps p.tables e below (T0.setTop (mkF m 9 #[.val (.int u), .val (.int i), .val (.int (Int32.ofNat rg))] [(.int (8 : Int32)), (.int u)])) _
      refine XS.iloadN X0.here hx rfl (own_hb hby d1_9) rfl ?_
      show Steps p.tables e below (T0.setTop (mkF m 10 #[.val (.int u), .val (.int i), .val (.int (Int32.ofNat rg))] [(.int i), (.int (8 : Int32)), (.int u)])) _
      refine XS.imul X0.here hx rfl (own_hb hby d1_10) rfl ?_
      show Steps p.tables e below (T0.setTop (mkF m 11 #[.val (.int u), .val (.int i), .val (.int (Int32.ofNat rg))] [(.int ((8 : Int32) * i)), (.int u)])) _
      refine XS.iushr X0.here hx rfl (own_hb hby d1_11) rfl ?_
      show Steps p.tables e below (T0.setTop (mkF m 12 #[.val (.int u), .val (.int i), .val (.int (Int32.ofNat rg))] [(.int ((u.toUInt32 >>> (((8 : Int32) * i) &&& 31).toUInt32).toInt32))])) _
      refine XS.sipush X0.here hx rfl (own_hb hby d1_12) ?_
      show Steps p.tables e below (T0.setTop (mkF m 15 #[.val (.int u), .val (.int i), .val (.int (Int32.ofNat rg))] [(.int (255 : Int32)), (.int ((u.toUInt32 >>> (((8 : Int32) * i) &&& 31).toUInt32).toInt32))])) _
      refine XS.iand X0.here hx rfl (own_hb hby d1_15) rfl ?_
      exact kt
    obtain ⟨km, hkm, ekm⟩ : ∃ n : Nat, n ≤ 255 ∧ (((u.toUInt32 >>> (((8 : Int32) * i) &&& 31).toUInt32).toInt32) &&& (255 : Int32)) = Int32.ofNat n := own_mask _ 255
    refine own_Go.of (S' := (T0.setTop (mkF m 16 #[.val (.int u), .val (.int i), .val (.int (Int32.ofNat rg))] [(.int (Int32.ofNat km))]))) (fun t kt => ?_) ?_
    · show Steps p.tables e below (T0.setTop (mkF m 16 #[.val (.int u), .val (.int i), .val (.int (Int32.ofNat rg))] [(.int (((u.toUInt32 >>> (((8 : Int32) * i) &&& 31).toUInt32).toInt32) &&& (255 : Int32)))])) _
      rw [ekm]
      exact kt
    refine own_Go.of (S' := (T0.setTop (mkF m 18 #[.val (.int u), .val (.int i), .val (.int (Int32.ofNat rg))] [(.int (Int32.ofNat (km % rg)))]))) (fun t kt => ?_) ?_
    · show Steps p.tables e below (T0.setTop (mkF m 16 #[.val (.int u), .val (.int i), .val (.int (Int32.ofNat rg))] [(.int (Int32.ofNat km))])) _
      refine XS.iloadN X0.here hx rfl (own_hb hby d1_16) rfl ?_
      show Steps p.tables e below (T0.setTop (mkF m 17 #[.val (.int u), .val (.int i), .val (.int (Int32.ofNat rg))] [(.int (Int32.ofNat rg)), (.int (Int32.ofNat km))])) _
      refine XS.irem X0.here hx rfl (own_hb hby d1_17) rfl (own_nzN (by omega) (by omega)) ?_
      show Steps p.tables e below (T0.setTop (mkF m 18 #[.val (.int u), .val (.int i), .val (.int (Int32.ofNat rg))] [(.int ((Int32.ofNat km) - ((Int32.ofNat km) / (Int32.ofNat rg)) * (Int32.ofNat rg)))])) _
      rw [own_remN (a := km) (b := rg) (by omega) (by omega)]
      exact kt
    exact own_retI X0 hx hlk hret (own_hb hby d1_18) e0 ⟨km % rg, rfl, N0, rfl, Or.inr (Nat.mod_lt _ (by omega))⟩ (by decide) (by decide)
theorem d4_0 : decode method_2_code 0 = .ok (.iload_n 3, 1) := by decide +kernel
theorem d4_1 : decode method_2_code 1 = .ok (.iload_n 1, 1) := by decide +kernel
theorem d4_2 : decode method_2_code 2 = .ok (.if_icmp .lt 5, 3) := by decide +kernel
theorem d4_5 : decode method_2_code 5 = .ok (.iconst 0, 1) := by decide +kernel
theorem d4_6 : decode method_2_code 6 = .ok (.ireturn, 1) := by decide +kernel
theorem d4_7 : decode method_2_code 7 = .ok (.aload_n 0, 1) := by decide +kernel
theorem d4_8 : decode method_2_code 8 = .ok (.iload_n 3, 1) := by decide +kernel
theorem d4_9 : decode method_2_code 9 = .ok (.iaload, 1) := by decide +kernel
theorem d4_10 : decode method_2_code 10 = .ok (.aload_n 0, 1) := by decide +kernel
theorem d4_11 : decode method_2_code 11 = .ok (.iload_n 2, 1) := by decide +kernel
theorem d4_12 : decode method_2_code 12 = .ok (.iaload, 1) := by decide +kernel
theorem d4_13 : decode method_2_code 13 = .ok (.if_icmp .ge 5, 3) := by decide +kernel
theorem d4_16 : decode method_2_code 16 = .ok (.iconst 1, 1) := by decide +kernel
theorem d4_17 : decode method_2_code 17 = .ok (.ireturn, 1) := by decide +kernel
theorem d4_18 : decode method_2_code 18 = .ok (.aload_n 0, 1) := by decide +kernel
theorem d4_19 : decode method_2_code 19 = .ok (.iload_n 3, 1) := by decide +kernel
theorem d4_20 : decode method_2_code 20 = .ok (.iaload, 1) := by decide +kernel
theorem d4_21 : decode method_2_code 21 = .ok (.aload_n 0, 1) := by decide +kernel
theorem d4_22 : decode method_2_code 22 = .ok (.iload_n 2, 1) := by decide +kernel
theorem d4_23 : decode method_2_code 23 = .ok (.iaload, 1) := by decide +kernel
theorem d4_24 : decode method_2_code 24 = .ok (.if_icmp .ne 10, 3) := by decide +kernel
theorem d4_27 : decode method_2_code 27 = .ok (.iload_n 3, 1) := by decide +kernel
theorem d4_28 : decode method_2_code 28 = .ok (.iload_n 2, 1) := by decide +kernel
theorem d4_29 : decode method_2_code 29 = .ok (.if_icmp .ge 5, 3) := by decide +kernel
theorem d4_32 : decode method_2_code 32 = .ok (.iconst 1, 1) := by decide +kernel
theorem d4_33 : decode method_2_code 33 = .ok (.ireturn, 1) := by decide +kernel
theorem d4_34 : decode method_2_code 34 = .ok (.iconst 0, 1) := by decide +kernel
theorem d4_35 : decode method_2_code 35 = .ok (.ireturn, 1) := by decide +kernel
theorem pn_4 : plainName "com/example/sagasu/sagasu/CountingSortByKeyPinLaw" = true := by first | (simp [plainName, overriddenIn]; done) | decide +kernel
def Q_rm4 (Z : State) (r : Addr) (n : Nat) (i : Nat) (j : Nat) (g : Nat → Nat) (h0 : Heap) (n0 : Nat) (v : Option Value) (h : Heap) (L : List Loc) : Prop := v = some (.int (Int32.ofNat (own_bf g n i j))) ∧ Fr n0 L ∧ h = h0
set_option maxRecDepth 65536 in
set_option maxHeartbeats 40000000 in
theorem rm4 (l : Launch) (Z : State) (a0 : Array Value) (hw : ∀ d ∈ tables_1, d.before a0 Z = true) (ws : List Jvm.Cond) (r : Addr) (n : Nat) (i : Nat) (j : Nat) (g : Nat → Nat) (h0 : Heap) (n0 : Nat) (Z0 : n0 ≤ h0.size) (pr0 : own_Ar Z h0 r .int 4 (own_I (own_N g))) (hn : n ≤ 4) (hi : i < n) (hj : j < 4) (hg : ∀ j, j < 4 → g j < 8) :
    own_Met l Z h0 (⟨"com/example/sagasu/sagasu/CountingSortByKeyPinLaw", "before", "([IIII)I"⟩ : MethodName) method_2_code 4 (some .int) ws ({ frames := 0, cells := 0, slots := 0, locals := 0 } : Room) #[(.ref r), (.int (Int32.ofNat n)), (.int (Int32.ofNat i)), (.int (Int32.ofNat j))] (Q_rm4 Z r n i j g h0 n0) := by
  refine own_enter (plainFor_of_name pn_4) ?_
  intro p e s m below meth c T0 X0 hx hby hml hret hlk hown hnm hZ e0
  have N0 := Fr.nil n0
  rw [show entryFrame m #[(.ref r), (.int (Int32.ofNat n)), (.int (Int32.ofNat i)), (.int (Int32.ofNat j))] 4 = (mkF m 0 #[.val (.ref r), .val (.int (Int32.ofNat n)), .val (.int (Int32.ofNat i)), .val (.int (Int32.ofNat j))] []) from by first | (simp [entryFrame, mkF, argsToLocals, Value.category]; done) | rfl]
  have hgi := hg i (by omega)
  have hgj := hg j (by omega)
  refine own_Go.of (S' := (T0.setTop (mkF m 2 #[.val (.ref r), .val (.int (Int32.ofNat n)), .val (.int (Int32.ofNat i)), .val (.int (Int32.ofNat j))] [(.int (Int32.ofNat n)), (.int (Int32.ofNat j))]))) (fun t kt => ?_) ?_
  · show Steps p.tables e below (T0.setTop (mkF m 0 #[.val (.ref r), .val (.int (Int32.ofNat n)), .val (.int (Int32.ofNat i)), .val (.int (Int32.ofNat j))] [])) _
    refine XS.iloadN X0.here hx rfl (own_hb hby d4_0) rfl ?_
    show Steps p.tables e below (T0.setTop (mkF m 1 #[.val (.ref r), .val (.int (Int32.ofNat n)), .val (.int (Int32.ofNat i)), .val (.int (Int32.ofNat j))] [(.int (Int32.ofNat j))])) _
    refine XS.iloadN X0.here hx rfl (own_hb hby d4_1) rfl ?_
    exact kt
  by_cases hc2_2 : j < n
  · skip
    refine own_Go.of (S' := (T0.setTop (mkF m 9 #[.val (.ref r), .val (.int (Int32.ofNat n)), .val (.int (Int32.ofNat i)), .val (.int (Int32.ofNat j))] [(.int (Int32.ofNat j)), (.ref r)]))) (fun t kt => ?_) ?_
    · show Steps p.tables e below (T0.setTop (mkF m 2 #[.val (.ref r), .val (.int (Int32.ofNat n)), .val (.int (Int32.ofNat i)), .val (.int (Int32.ofNat j))] [(.int (Int32.ofNat n)), (.int (Int32.ofNat j))])) _
      refine XS.icmpYes X0.here hx rfl (pc0 := 2) (pc' := 7) rfl (own_hb hby d4_2) rfl (tlt ((own_ltN (by omega) (by omega)).mpr hc2_2)).1 (by decide) (by decide) ?_
      show Steps p.tables e below (T0.setTop (mkF m 7 #[.val (.ref r), .val (.int (Int32.ofNat n)), .val (.int (Int32.ofNat i)), .val (.int (Int32.ofNat j))] [])) _
      refine XS.aloadN X0.here hx rfl (own_hb hby d4_7) rfl rfl ?_
      show Steps p.tables e below (T0.setTop (mkF m 8 #[.val (.ref r), .val (.int (Int32.ofNat n)), .val (.int (Int32.ofNat i)), .val (.int (Int32.ofNat j))] [(.ref r)])) _
      refine XS.iloadN X0.here hx rfl (own_hb hby d4_8) rfl ?_
      exact kt
    obtain ⟨cl3, Ar3, hin3, hat3⟩ := own_Ar.get (j := (Int32.ofNat j)) (k := j) pr0 ⟨rfl, by omega⟩
    refine own_Go.of (S' := (T0.setTop (mkF m 12 #[.val (.ref r), .val (.int (Int32.ofNat n)), .val (.int (Int32.ofNat i)), .val (.int (Int32.ofNat j))] [(.int (Int32.ofNat i)), (.ref r), (.int (Int32.ofNat (g j)))]))) (fun t kt => ?_) ?_
    · show Steps p.tables e below (T0.setTop (mkF m 9 #[.val (.ref r), .val (.int (Int32.ofNat n)), .val (.int (Int32.ofNat i)), .val (.int (Int32.ofNat j))] [(.int (Int32.ofNat j)), (.ref r)])) _
      refine X0.iaload hx (j := (Int32.ofNat j)) (v := (.int (Int32.ofNat (g j)))) (by rw [e0]; exact Ar3.1) (State.isArrayOf_alike hZ.alike Ar3.2.1) Ar3.2.2 hin3 hat3 (g := (mkF m 9 #[.val (.ref r), .val (.int (Int32.ofNat n)), .val (.int (Int32.ofNat i)), .val (.int (Int32.ofNat j))] [(.int (Int32.ofNat j)), (.ref r)])) rfl rfl (own_hb hby d4_9) _ ?_
      show Steps p.tables e below (T0.setTop (mkF m 10 #[.val (.ref r), .val (.int (Int32.ofNat n)), .val (.int (Int32.ofNat i)), .val (.int (Int32.ofNat j))] [(.int (Int32.ofNat (g j)))])) _
      refine XS.aloadN X0.here hx rfl (own_hb hby d4_10) rfl rfl ?_
      show Steps p.tables e below (T0.setTop (mkF m 11 #[.val (.ref r), .val (.int (Int32.ofNat n)), .val (.int (Int32.ofNat i)), .val (.int (Int32.ofNat j))] [(.ref r), (.int (Int32.ofNat (g j)))])) _
      refine XS.iloadN X0.here hx rfl (own_hb hby d4_11) rfl ?_
      exact kt
    obtain ⟨cl4, Ar4, hin4, hat4⟩ := own_Ar.get (j := (Int32.ofNat i)) (k := i) pr0 ⟨rfl, by omega⟩
    refine own_Go.of (S' := (T0.setTop (mkF m 13 #[.val (.ref r), .val (.int (Int32.ofNat n)), .val (.int (Int32.ofNat i)), .val (.int (Int32.ofNat j))] [(.int (Int32.ofNat (g i))), (.int (Int32.ofNat (g j)))]))) (fun t kt => ?_) ?_
    · show Steps p.tables e below (T0.setTop (mkF m 12 #[.val (.ref r), .val (.int (Int32.ofNat n)), .val (.int (Int32.ofNat i)), .val (.int (Int32.ofNat j))] [(.int (Int32.ofNat i)), (.ref r), (.int (Int32.ofNat (g j)))])) _
      refine X0.iaload hx (j := (Int32.ofNat i)) (v := (.int (Int32.ofNat (g i)))) (by rw [e0]; exact Ar4.1) (State.isArrayOf_alike hZ.alike Ar4.2.1) Ar4.2.2 hin4 hat4 (g := (mkF m 12 #[.val (.ref r), .val (.int (Int32.ofNat n)), .val (.int (Int32.ofNat i)), .val (.int (Int32.ofNat j))] [(.int (Int32.ofNat i)), (.ref r), (.int (Int32.ofNat (g j)))])) rfl rfl (own_hb hby d4_12) _ ?_
      exact kt
    by_cases hc13_5 : (g j) < (g i)
    · skip
      refine own_Go.of (S' := (T0.setTop (mkF m 17 #[.val (.ref r), .val (.int (Int32.ofNat n)), .val (.int (Int32.ofNat i)), .val (.int (Int32.ofNat j))] [(.int (1 : Int32))]))) (fun t kt => ?_) ?_
      · show Steps p.tables e below (T0.setTop (mkF m 13 #[.val (.ref r), .val (.int (Int32.ofNat n)), .val (.int (Int32.ofNat i)), .val (.int (Int32.ofNat j))] [(.int (Int32.ofNat (g i))), (.int (Int32.ofNat (g j)))])) _
        refine XS.icmpNo X0.here hx rfl (own_hb hby d4_13) rfl (tlt ((own_ltN (by omega) (by omega)).mpr hc13_5)).2.1 ?_
        show Steps p.tables e below (T0.setTop (mkF m 16 #[.val (.ref r), .val (.int (Int32.ofNat n)), .val (.int (Int32.ofNat i)), .val (.int (Int32.ofNat j))] [])) _
        refine XS.iconst X0.here hx rfl (own_hb hby d4_16) ?_
        exact kt
      exact own_retI X0 hx hlk hret (own_hb hby d4_17) e0 ⟨by unfold own_bf; rw [if_pos (by omega)]; rfl, N0, rfl⟩ (by decide) (by decide)
    · skip
      refine own_Go.of (S' := (T0.setTop (mkF m 20 #[.val (.ref r), .val (.int (Int32.ofNat n)), .val (.int (Int32.ofNat i)), .val (.int (Int32.ofNat j))] [(.int (Int32.ofNat j)), (.ref r)]))) (fun t kt => ?_) ?_
      · show Steps p.tables e below (T0.setTop (mkF m 13 #[.val (.ref r), .val (.int (Int32.ofNat n)), .val (.int (Int32.ofNat i)), .val (.int (Int32.ofNat j))] [(.int (Int32.ofNat (g i))), (.int (Int32.ofNat (g j)))])) _
        refine XS.icmpYes X0.here hx rfl (pc0 := 13) (pc' := 18) rfl (own_hb hby d4_13) rfl (flt (fun q => hc13_5 ((own_ltN (by omega) (by omega)).mp q))).2.1 (by decide) (by decide) ?_
        show Steps p.tables e below (T0.setTop (mkF m 18 #[.val (.ref r), .val (.int (Int32.ofNat n)), .val (.int (Int32.ofNat i)), .val (.int (Int32.ofNat j))] [])) _
        refine XS.aloadN X0.here hx rfl (own_hb hby d4_18) rfl rfl ?_
        show Steps p.tables e below (T0.setTop (mkF m 19 #[.val (.ref r), .val (.int (Int32.ofNat n)), .val (.int (Int32.ofNat i)), .val (.int (Int32.ofNat j))] [(.ref r)])) _
        refine XS.iloadN X0.here hx rfl (own_hb hby d4_19) rfl ?_
        exact kt
      obtain ⟨cl6, Ar6, hin6, hat6⟩ := own_Ar.get (j := (Int32.ofNat j)) (k := j) pr0 ⟨rfl, by omega⟩
      refine own_Go.of (S' := (T0.setTop (mkF m 23 #[.val (.ref r), .val (.int (Int32.ofNat n)), .val (.int (Int32.ofNat i)), .val (.int (Int32.ofNat j))] [(.int (Int32.ofNat i)), (.ref r), (.int (Int32.ofNat (g j)))]))) (fun t kt => ?_) ?_
      · show Steps p.tables e below (T0.setTop (mkF m 20 #[.val (.ref r), .val (.int (Int32.ofNat n)), .val (.int (Int32.ofNat i)), .val (.int (Int32.ofNat j))] [(.int (Int32.ofNat j)), (.ref r)])) _
        refine X0.iaload hx (j := (Int32.ofNat j)) (v := (.int (Int32.ofNat (g j)))) (by rw [e0]; exact Ar6.1) (State.isArrayOf_alike hZ.alike Ar6.2.1) Ar6.2.2 hin6 hat6 (g := (mkF m 20 #[.val (.ref r), .val (.int (Int32.ofNat n)), .val (.int (Int32.ofNat i)), .val (.int (Int32.ofNat j))] [(.int (Int32.ofNat j)), (.ref r)])) rfl rfl (own_hb hby d4_20) _ ?_
        show Steps p.tables e below (T0.setTop (mkF m 21 #[.val (.ref r), .val (.int (Int32.ofNat n)), .val (.int (Int32.ofNat i)), .val (.int (Int32.ofNat j))] [(.int (Int32.ofNat (g j)))])) _
        refine XS.aloadN X0.here hx rfl (own_hb hby d4_21) rfl rfl ?_
        show Steps p.tables e below (T0.setTop (mkF m 22 #[.val (.ref r), .val (.int (Int32.ofNat n)), .val (.int (Int32.ofNat i)), .val (.int (Int32.ofNat j))] [(.ref r), (.int (Int32.ofNat (g j)))])) _
        refine XS.iloadN X0.here hx rfl (own_hb hby d4_22) rfl ?_
        exact kt
      obtain ⟨cl7, Ar7, hin7, hat7⟩ := own_Ar.get (j := (Int32.ofNat i)) (k := i) pr0 ⟨rfl, by omega⟩
      refine own_Go.of (S' := (T0.setTop (mkF m 24 #[.val (.ref r), .val (.int (Int32.ofNat n)), .val (.int (Int32.ofNat i)), .val (.int (Int32.ofNat j))] [(.int (Int32.ofNat (g i))), (.int (Int32.ofNat (g j)))]))) (fun t kt => ?_) ?_
      · show Steps p.tables e below (T0.setTop (mkF m 23 #[.val (.ref r), .val (.int (Int32.ofNat n)), .val (.int (Int32.ofNat i)), .val (.int (Int32.ofNat j))] [(.int (Int32.ofNat i)), (.ref r), (.int (Int32.ofNat (g j)))])) _
        refine X0.iaload hx (j := (Int32.ofNat i)) (v := (.int (Int32.ofNat (g i)))) (by rw [e0]; exact Ar7.1) (State.isArrayOf_alike hZ.alike Ar7.2.1) Ar7.2.2 hin7 hat7 (g := (mkF m 23 #[.val (.ref r), .val (.int (Int32.ofNat n)), .val (.int (Int32.ofNat i)), .val (.int (Int32.ofNat j))] [(.int (Int32.ofNat i)), (.ref r), (.int (Int32.ofNat (g j)))])) rfl rfl (own_hb hby d4_23) _ ?_
        exact kt
      by_cases hc24_8 : (g j) = (g i)
      · skip
        refine own_Go.of (S' := (T0.setTop (mkF m 29 #[.val (.ref r), .val (.int (Int32.ofNat n)), .val (.int (Int32.ofNat i)), .val (.int (Int32.ofNat j))] [(.int (Int32.ofNat i)), (.int (Int32.ofNat j))]))) (fun t kt => ?_) ?_
        · show Steps p.tables e below (T0.setTop (mkF m 24 #[.val (.ref r), .val (.int (Int32.ofNat n)), .val (.int (Int32.ofNat i)), .val (.int (Int32.ofNat j))] [(.int (Int32.ofNat (g i))), (.int (Int32.ofNat (g j)))])) _
          refine XS.icmpNo X0.here hx rfl (own_hb hby d4_24) rfl (teq (own_eqN' hc24_8)).2 ?_
          show Steps p.tables e below (T0.setTop (mkF m 27 #[.val (.ref r), .val (.int (Int32.ofNat n)), .val (.int (Int32.ofNat i)), .val (.int (Int32.ofNat j))] [])) _
          refine XS.iloadN X0.here hx rfl (own_hb hby d4_27) rfl ?_
          show Steps p.tables e below (T0.setTop (mkF m 28 #[.val (.ref r), .val (.int (Int32.ofNat n)), .val (.int (Int32.ofNat i)), .val (.int (Int32.ofNat j))] [(.int (Int32.ofNat j))])) _
          refine XS.iloadN X0.here hx rfl (own_hb hby d4_28) rfl ?_
          exact kt
        by_cases hc29_9 : j < i
        · skip
          refine own_Go.of (S' := (T0.setTop (mkF m 33 #[.val (.ref r), .val (.int (Int32.ofNat n)), .val (.int (Int32.ofNat i)), .val (.int (Int32.ofNat j))] [(.int (1 : Int32))]))) (fun t kt => ?_) ?_
          · show Steps p.tables e below (T0.setTop (mkF m 29 #[.val (.ref r), .val (.int (Int32.ofNat n)), .val (.int (Int32.ofNat i)), .val (.int (Int32.ofNat j))] [(.int (Int32.ofNat i)), (.int (Int32.ofNat j))])) _
            refine XS.icmpNo X0.here hx rfl (own_hb hby d4_29) rfl (tlt ((own_ltN (by omega) (by omega)).mpr hc29_9)).2.1 ?_
            show Steps p.tables e below (T0.setTop (mkF m 32 #[.val (.ref r), .val (.int (Int32.ofNat n)), .val (.int (Int32.ofNat i)), .val (.int (Int32.ofNat j))] [])) _
            refine XS.iconst X0.here hx rfl (own_hb hby d4_32) ?_
            exact kt
          exact own_retI X0 hx hlk hret (own_hb hby d4_33) e0 ⟨by unfold own_bf; rw [if_pos (by omega)]; rfl, N0, rfl⟩ (by decide) (by decide)
        · skip
          refine own_Go.of (S' := (T0.setTop (mkF m 35 #[.val (.ref r), .val (.int (Int32.ofNat n)), .val (.int (Int32.ofNat i)), .val (.int (Int32.ofNat j))] [(.int (0 : Int32))]))) (fun t kt => ?_) ?_
          · show Steps p.tables e below (T0.setTop (mkF m 29 #[.val (.ref r), .val (.int (Int32.ofNat n)), .val (.int (Int32.ofNat i)), .val (.int (Int32.ofNat j))] [(.int (Int32.ofNat i)), (.int (Int32.ofNat j))])) _
            refine XS.icmpYes X0.here hx rfl (pc0 := 29) (pc' := 34) rfl (own_hb hby d4_29) rfl (flt (fun q => hc29_9 ((own_ltN (by omega) (by omega)).mp q))).2.1 (by decide) (by decide) ?_
            show Steps p.tables e below (T0.setTop (mkF m 34 #[.val (.ref r), .val (.int (Int32.ofNat n)), .val (.int (Int32.ofNat i)), .val (.int (Int32.ofNat j))] [])) _
            refine XS.iconst X0.here hx rfl (own_hb hby d4_34) ?_
            exact kt
          exact own_retI X0 hx hlk hret (own_hb hby d4_35) e0 ⟨by unfold own_bf; rw [if_neg (by omega)]; rfl, N0, rfl⟩ (by decide) (by decide)
      · skip
        refine own_Go.of (S' := (T0.setTop (mkF m 35 #[.val (.ref r), .val (.int (Int32.ofNat n)), .val (.int (Int32.ofNat i)), .val (.int (Int32.ofNat j))] [(.int (0 : Int32))]))) (fun t kt => ?_) ?_
        · show Steps p.tables e below (T0.setTop (mkF m 24 #[.val (.ref r), .val (.int (Int32.ofNat n)), .val (.int (Int32.ofNat i)), .val (.int (Int32.ofNat j))] [(.int (Int32.ofNat (g i))), (.int (Int32.ofNat (g j)))])) _
          refine XS.icmpYes X0.here hx rfl (pc0 := 24) (pc' := 34) rfl (own_hb hby d4_24) rfl (feq (fun q => hc24_8 ((own_eqN (by omega) (by omega)).mp q))).2 (by decide) (by decide) ?_
          show Steps p.tables e below (T0.setTop (mkF m 34 #[.val (.ref r), .val (.int (Int32.ofNat n)), .val (.int (Int32.ofNat i)), .val (.int (Int32.ofNat j))] [])) _
          refine XS.iconst X0.here hx rfl (own_hb hby d4_34) ?_
          exact kt
        exact own_retI X0 hx hlk hret (own_hb hby d4_35) e0 ⟨by unfold own_bf; rw [if_neg (by omega)]; rfl, N0, rfl⟩ (by decide) (by decide)
  · skip
    refine own_Go.of (S' := (T0.setTop (mkF m 6 #[.val (.ref r), .val (.int (Int32.ofNat n)), .val (.int (Int32.ofNat i)), .val (.int (Int32.ofNat j))] [(.int (0 : Int32))]))) (fun t kt => ?_) ?_
    · show Steps p.tables e below (T0.setTop (mkF m 2 #[.val (.ref r), .val (.int (Int32.ofNat n)), .val (.int (Int32.ofNat i)), .val (.int (Int32.ofNat j))] [(.int (Int32.ofNat n)), (.int (Int32.ofNat j))])) _
      refine XS.icmpNo X0.here hx rfl (own_hb hby d4_2) rfl (flt (fun q => hc2_2 ((own_ltN (by omega) (by omega)).mp q))).1 ?_
      show Steps p.tables e below (T0.setTop (mkF m 5 #[.val (.ref r), .val (.int (Int32.ofNat n)), .val (.int (Int32.ofNat i)), .val (.int (Int32.ofNat j))] [])) _
      refine XS.iconst X0.here hx rfl (own_hb hby d4_5) ?_
      exact kt
    exact own_retI X0 hx hlk hret (own_hb hby d4_6) e0 ⟨by unfold own_bf; rw [if_neg (by omega)]; rfl, N0, rfl⟩ (by decide) (by decide)
theorem d3_0 : decode method_3_code 0 = .ok (.iload 4, 2) := by decide +kernel
theorem d3_2 : decode method_3_code 2 = .ok (.iload_n 3, 1) := by decide +kernel
theorem d3_3 : decode method_3_code 3 = .ok (.if_icmp .lt 5, 3) := by decide +kernel
theorem d3_6 : decode method_3_code 6 = .ok (.iconst 1, 1) := by decide +kernel
theorem d3_7 : decode method_3_code 7 = .ok (.ireturn, 1) := by decide +kernel
theorem d3_8 : decode method_3_code 8 = .ok (.aload_n 2, 1) := by decide +kernel
theorem d3_9 : decode method_3_code 9 = .ok (.iload_n 3, 1) := by decide +kernel
theorem d3_10 : decode method_3_code 10 = .ok (.iload 4, 2) := by decide +kernel
theorem d3_12 : decode method_3_code 12 = .ok (.iconst 0, 1) := by decide +kernel
theorem d3_13 : decode method_3_code 13 = .ok (.invokestatic 7, 3) := by decide +kernel
theorem d3_16 : decode method_3_code 16 = .ok (.aload_n 2, 1) := by decide +kernel
theorem d3_17 : decode method_3_code 17 = .ok (.iload_n 3, 1) := by decide +kernel
theorem d3_18 : decode method_3_code 18 = .ok (.iload 4, 2) := by decide +kernel
theorem d3_20 : decode method_3_code 20 = .ok (.iconst 1, 1) := by decide +kernel
theorem d3_21 : decode method_3_code 21 = .ok (.invokestatic 7, 3) := by decide +kernel
theorem d3_24 : decode method_3_code 24 = .ok (.iadd, 1) := by decide +kernel
theorem d3_25 : decode method_3_code 25 = .ok (.aload_n 2, 1) := by decide +kernel
theorem d3_26 : decode method_3_code 26 = .ok (.iload_n 3, 1) := by decide +kernel
theorem d3_27 : decode method_3_code 27 = .ok (.iload 4, 2) := by decide +kernel
theorem d3_29 : decode method_3_code 29 = .ok (.iconst 2, 1) := by decide +kernel
theorem d3_30 : decode method_3_code 30 = .ok (.invokestatic 7, 3) := by decide +kernel
theorem d3_33 : decode method_3_code 33 = .ok (.iadd, 1) := by decide +kernel
theorem d3_34 : decode method_3_code 34 = .ok (.aload_n 2, 1) := by decide +kernel
theorem d3_35 : decode method_3_code 35 = .ok (.iload_n 3, 1) := by decide +kernel
theorem d3_36 : decode method_3_code 36 = .ok (.iload 4, 2) := by decide +kernel
theorem d3_38 : decode method_3_code 38 = .ok (.iconst 3, 1) := by decide +kernel
theorem d3_39 : decode method_3_code 39 = .ok (.invokestatic 7, 3) := by decide +kernel
theorem d3_42 : decode method_3_code 42 = .ok (.iadd, 1) := by decide +kernel
theorem d3_43 : decode method_3_code 43 = .ok (.istore 5, 2) := by decide +kernel
theorem d3_45 : decode method_3_code 45 = .ok (.aload_n 0, 1) := by decide +kernel
theorem d3_46 : decode method_3_code 46 = .ok (.iload 5, 2) := by decide +kernel
theorem d3_48 : decode method_3_code 48 = .ok (.iaload, 1) := by decide +kernel
theorem d3_49 : decode method_3_code 49 = .ok (.aload_n 1, 1) := by decide +kernel
theorem d3_50 : decode method_3_code 50 = .ok (.iload 4, 2) := by decide +kernel
theorem d3_52 : decode method_3_code 52 = .ok (.iaload, 1) := by decide +kernel
theorem d3_53 : decode method_3_code 53 = .ok (.if_icmp .ne 7, 3) := by decide +kernel
theorem d3_56 : decode method_3_code 56 = .ok (.iconst 1, 1) := by decide +kernel
theorem d3_57 : decode method_3_code 57 = .ok (.goto 4, 3) := by decide +kernel
theorem d3_60 : decode method_3_code 60 = .ok (.iconst 0, 1) := by decide +kernel
theorem d3_61 : decode method_3_code 61 = .ok (.ireturn, 1) := by decide +kernel
theorem pn_3 : plainName "com/example/sagasu/sagasu/CountingSortByKeyPinLaw" = true := by first | (simp [plainName, overriddenIn]; done) | decide +kernel
theorem pd_0 : parseMethodDescriptor "([IIII)I" = some ⟨[(.array .int), .int, .int, .int], some .int⟩ := by decide +kernel
def Q_rm3 (Z : State) (so : Addr) (ip : Addr) (kk : Addr) (n : Nat) (i : Nat) (sf : Nat → Nat) (g : Nat → Nat) (kg : Nat → Nat) (h0 : Heap) (n0 : Nat) (v : Option Value) (h : Heap) (L : List Loc) : Prop := v = some (.int (1 : Int32)) ∧ Fr n0 L ∧ h = h0
set_option maxRecDepth 65536 in
set_option maxHeartbeats 40000000 in
theorem rm3 (l : Launch) (Z : State) (a0 : Array Value) (hw : ∀ d ∈ tables_1, d.before a0 Z = true) (ws : List Jvm.Cond) (so : Addr) (ip : Addr) (kk : Addr) (n : Nat) (i : Nat) (sf : Nat → Nat) (g : Nat → Nat) (kg : Nat → Nat) (h0 : Heap) (n0 : Nat) (Z0 : n0 ≤ h0.size) (pr0 : own_Ar Z h0 so .int n (own_I (own_N sf))) (pr1 : own_Ar Z h0 ip .int 4 (own_I (own_N g))) (pr2 : own_Ar Z h0 kk .int 4 (own_I (own_N kg))) (hn : n ≤ 4) (hi : i < 4) (hk : ∀ j, j < 4 → kg j < 8) (hpos : i < n → own_rk kg n i < n ∧ sf (own_rk kg n i) = g i) :
    own_Met l Z h0 (⟨"com/example/sagasu/sagasu/CountingSortByKeyPinLaw", "placed", "([I[I[III)Z"⟩ : MethodName) method_3_code 6 (some .boolean) ws ({ frames := 1, cells := 0, slots := 0, locals := 16 } : Room) #[(.ref so), (.ref ip), (.ref kk), (.int (Int32.ofNat n)), (.int (Int32.ofNat i))] (Q_rm3 Z so ip kk n i sf g kg h0 n0) := by
  refine own_enter (plainFor_of_name pn_3) ?_
  intro p e s m below meth c T0 X0 hx hby hml hret hlk hown hnm hZ e0
  have N0 := Fr.nil n0
  rw [show entryFrame m #[(.ref so), (.ref ip), (.ref kk), (.int (Int32.ofNat n)), (.int (Int32.ofNat i))] 6 = (mkF m 0 #[.val (.ref so), .val (.ref ip), .val (.ref kk), .val (.int (Int32.ofNat n)), .val (.int (Int32.ofNat i)), .unset] []) from by first | (simp [entryFrame, mkF, argsToLocals, Value.category]; done) | rfl]
  refine own_Go.of (S' := (T0.setTop (mkF m 3 #[.val (.ref so), .val (.ref ip), .val (.ref kk), .val (.int (Int32.ofNat n)), .val (.int (Int32.ofNat i)), .unset] [(.int (Int32.ofNat n)), (.int (Int32.ofNat i))]))) (fun t kt => ?_) ?_
  · show Steps p.tables e below (T0.setTop (mkF m 0 #[.val (.ref so), .val (.ref ip), .val (.ref kk), .val (.int (Int32.ofNat n)), .val (.int (Int32.ofNat i)), .unset] [])) _
    refine XS.iload X0.here hx rfl (own_hb hby d3_0) rfl ?_
    show Steps p.tables e below (T0.setTop (mkF m 2 #[.val (.ref so), .val (.ref ip), .val (.ref kk), .val (.int (Int32.ofNat n)), .val (.int (Int32.ofNat i)), .unset] [(.int (Int32.ofNat i))])) _
    refine XS.iloadN X0.here hx rfl (own_hb hby d3_2) rfl ?_
    exact kt
  by_cases hc3_10 : i < n
  · skip
    refine own_Go.of (S' := (T0.setTop (mkF m 13 #[.val (.ref so), .val (.ref ip), .val (.ref kk), .val (.int (Int32.ofNat n)), .val (.int (Int32.ofNat i)), .unset] [(.int (0 : Int32)), (.int (Int32.ofNat i)), (.int (Int32.ofNat n)), (.ref kk)]))) (fun t kt => ?_) ?_
    · show Steps p.tables e below (T0.setTop (mkF m 3 #[.val (.ref so), .val (.ref ip), .val (.ref kk), .val (.int (Int32.ofNat n)), .val (.int (Int32.ofNat i)), .unset] [(.int (Int32.ofNat n)), (.int (Int32.ofNat i))])) _
      refine XS.icmpYes X0.here hx rfl (pc0 := 3) (pc' := 8) rfl (own_hb hby d3_3) rfl (tlt ((own_ltN (by omega) (by omega)).mpr hc3_10)).1 (by decide) (by decide) ?_
      show Steps p.tables e below (T0.setTop (mkF m 8 #[.val (.ref so), .val (.ref ip), .val (.ref kk), .val (.int (Int32.ofNat n)), .val (.int (Int32.ofNat i)), .unset] [])) _
      refine XS.aloadN X0.here hx rfl (own_hb hby d3_8) rfl rfl ?_
      show Steps p.tables e below (T0.setTop (mkF m 9 #[.val (.ref so), .val (.ref ip), .val (.ref kk), .val (.int (Int32.ofNat n)), .val (.int (Int32.ofNat i)), .unset] [(.ref kk)])) _
      refine XS.iloadN X0.here hx rfl (own_hb hby d3_9) rfl ?_
      show Steps p.tables e below (T0.setTop (mkF m 10 #[.val (.ref so), .val (.ref ip), .val (.ref kk), .val (.int (Int32.ofNat n)), .val (.int (Int32.ofNat i)), .unset] [(.int (Int32.ofNat n)), (.ref kk)])) _
      refine XS.iload X0.here hx rfl (own_hb hby d3_10) rfl ?_
      show Steps p.tables e below (T0.setTop (mkF m 12 #[.val (.ref so), .val (.ref ip), .val (.ref kk), .val (.int (Int32.ofNat n)), .val (.int (Int32.ofNat i)), .unset] [(.int (Int32.ofNat i)), (.int (Int32.ofNat n)), (.ref kk)])) _
      refine XS.iconst X0.here hx rfl (own_hb hby d3_12) ?_
      exact kt
    obtain ⟨_, _, ⟨T11, L11, k11, n11⟩, -, X11, ⟨Lc11, hQ11, l11, y11, z11⟩, st11⟩ := Jvm.LawKit.callS X0 hx (y := (⟨"com/example/sagasu/sagasu/CountingSortByKeyPinLaw", "before", "([IIII)I"⟩ : MethodName)) hown (mvT hZ (hw _ (List.mem_of_getElem? (i := 12) rfl))) (mvT hZ (hw _ (List.mem_of_getElem? (i := 13) rfl))) (mvT hZ (hw _ (List.mem_of_getElem? (i := 3) rfl))) (mvT hZ (hw _ (List.mem_of_getElem? (i := 14) rfl))) (by decide) (backOf (W := 0) (rm4 l Z a0 hw [] kk n i 0 kg h0 n0 Z0 pr2 hn (by omega) (by decide) hk) hZ (hw _ (List.mem_of_getElem? (i := 14) rfl)) (hw _ (List.mem_of_getElem? (i := 3) rfl)) (by decide) (by decide)) (g := (mkF m 13 #[.val (.ref so), .val (.ref ip), .val (.ref kk), .val (.int (Int32.ofNat n)), .val (.int (Int32.ofNat i)), .unset] [(.int (0 : Int32)), (.int (Int32.ofNat i)), (.int (Int32.ofNat n)), (.ref kk)])) rfl (by rw [hml]; rfl) (argsL := [(.ref kk), (.int (Int32.ofNat n)), (.int (Int32.ofNat i)), (.int (0 : Int32))]) (rest := []) (lenOf pd_0 rfl) rfl (by show 2 * 0 + _ ≤ _; exact Nat.le_of_eq rfl) (own_hb hby d3_13) (fun _ _ => ⟨rfl, e0, (by decide : 0 + 0 ≤ _), (by decide : 0 + 0 ≤ _)⟩)
    dsimp only [Pt.U, Pt.locs, Pt.cells, Pt.slots] at X11 l11 y11 z11 st11 hQ11
    subst l11 y11 z11
    obtain ⟨rfl, N11q, hh11⟩ := hQ11
    have N11 := Fr.app N0 N11q
    refine own_Go.of (S' := (T11.setTop (mkF m 16 #[.val (.ref so), .val (.ref ip), .val (.ref kk), .val (.int (Int32.ofNat n)), .val (.int (Int32.ofNat i)), .unset] [(.int (Int32.ofNat (own_bf kg n i 0)))]))) (fun t kt => st11 t kt) ?_
    refine own_Go.of (S' := (T11.setTop (mkF m 21 #[.val (.ref so), .val (.ref ip), .val (.ref kk), .val (.int (Int32.ofNat n)), .val (.int (Int32.ofNat i)), .unset] [(.int (1 : Int32)), (.int (Int32.ofNat i)), (.int (Int32.ofNat n)), (.ref kk), (.int (Int32.ofNat (own_bf kg n i 0)))]))) (fun t kt => ?_) ?_
    · show Steps p.tables e below (T11.setTop (mkF m 16 #[.val (.ref so), .val (.ref ip), .val (.ref kk), .val (.int (Int32.ofNat n)), .val (.int (Int32.ofNat i)), .unset] [(.int (Int32.ofNat (own_bf kg n i 0)))])) _
      refine XS.aloadN X11.here hx rfl (own_hb hby d3_16) rfl rfl ?_
      show Steps p.tables e below (T11.setTop (mkF m 17 #[.val (.ref so), .val (.ref ip), .val (.ref kk), .val (.int (Int32.ofNat n)), .val (.int (Int32.ofNat i)), .unset] [(.ref kk), (.int (Int32.ofNat (own_bf kg n i 0)))])) _
      refine XS.iloadN X11.here hx rfl (own_hb hby d3_17) rfl ?_
      show Steps p.tables e below (T11.setTop (mkF m 18 #[.val (.ref so), .val (.ref ip), .val (.ref kk), .val (.int (Int32.ofNat n)), .val (.int (Int32.ofNat i)), .unset] [(.int (Int32.ofNat n)), (.ref kk), (.int (Int32.ofNat (own_bf kg n i 0)))])) _
      refine XS.iload X11.here hx rfl (own_hb hby d3_18) rfl ?_
      show Steps p.tables e below (T11.setTop (mkF m 20 #[.val (.ref so), .val (.ref ip), .val (.ref kk), .val (.int (Int32.ofNat n)), .val (.int (Int32.ofNat i)), .unset] [(.int (Int32.ofNat i)), (.int (Int32.ofNat n)), (.ref kk), (.int (Int32.ofNat (own_bf kg n i 0)))])) _
      refine XS.iconst X11.here hx rfl (own_hb hby d3_20) ?_
      exact kt
    obtain ⟨_, _, ⟨T12, L12, k12, n12⟩, -, X12, ⟨Lc12, hQ12, l12, y12, z12⟩, st12⟩ := Jvm.LawKit.callS X11 hx (y := (⟨"com/example/sagasu/sagasu/CountingSortByKeyPinLaw", "before", "([IIII)I"⟩ : MethodName)) hown (mvT hZ (hw _ (List.mem_of_getElem? (i := 12) rfl))) (mvT hZ (hw _ (List.mem_of_getElem? (i := 13) rfl))) (mvT hZ (hw _ (List.mem_of_getElem? (i := 3) rfl))) (mvT hZ (hw _ (List.mem_of_getElem? (i := 14) rfl))) (by decide) (backOf (W := 1) (rm4 l Z a0 hw [] kk n i 1 kg h0 n0 Z0 pr2 hn (by omega) (by decide) hk) hZ (hw _ (List.mem_of_getElem? (i := 14) rfl)) (hw _ (List.mem_of_getElem? (i := 3) rfl)) (by decide) (by decide)) (g := (mkF m 21 #[.val (.ref so), .val (.ref ip), .val (.ref kk), .val (.int (Int32.ofNat n)), .val (.int (Int32.ofNat i)), .unset] [(.int (1 : Int32)), (.int (Int32.ofNat i)), (.int (Int32.ofNat n)), (.ref kk), (.int (Int32.ofNat (own_bf kg n i 0)))])) rfl (by rw [hml]; rfl) (argsL := [(.ref kk), (.int (Int32.ofNat n)), (.int (Int32.ofNat i)), (.int (1 : Int32))]) (rest := [(.int (Int32.ofNat (own_bf kg n i 0)))]) (lenOf pd_0 rfl) rfl (by show 2 * 0 + _ ≤ _; exact Nat.le_of_eq rfl) (own_hb hby d3_21) (fun _ _ => ⟨rfl, hh11, (by decide : 0 + 0 ≤ _), (by decide : 0 + 0 ≤ _)⟩)
    dsimp only [Pt.U, Pt.locs, Pt.cells, Pt.slots] at X12 l12 y12 z12 st12 hQ12
    subst l12 y12 z12
    obtain ⟨rfl, N12q, hh12⟩ := hQ12
    have N12 := Fr.app N11 N12q
    refine own_Go.of (S' := (T12.setTop (mkF m 24 #[.val (.ref so), .val (.ref ip), .val (.ref kk), .val (.int (Int32.ofNat n)), .val (.int (Int32.ofNat i)), .unset] [(.int (Int32.ofNat (own_bf kg n i 1))), (.int (Int32.ofNat (own_bf kg n i 0)))]))) (fun t kt => st12 t kt) ?_
    refine own_Go.of (S' := (T12.setTop (mkF m 30 #[.val (.ref so), .val (.ref ip), .val (.ref kk), .val (.int (Int32.ofNat n)), .val (.int (Int32.ofNat i)), .unset] [(.int (2 : Int32)), (.int (Int32.ofNat i)), (.int (Int32.ofNat n)), (.ref kk), (.int (Int32.ofNat ((own_bf kg n i 0) + (own_bf kg n i 1))))]))) (fun t kt => ?_) ?_
    · show Steps p.tables e below (T12.setTop (mkF m 24 #[.val (.ref so), .val (.ref ip), .val (.ref kk), .val (.int (Int32.ofNat n)), .val (.int (Int32.ofNat i)), .unset] [(.int (Int32.ofNat (own_bf kg n i 1))), (.int (Int32.ofNat (own_bf kg n i 0)))])) _
      refine XS.iadd X12.here hx rfl (own_hb hby d3_24) rfl ?_
      show Steps p.tables e below (T12.setTop (mkF m 25 #[.val (.ref so), .val (.ref ip), .val (.ref kk), .val (.int (Int32.ofNat n)), .val (.int (Int32.ofNat i)), .unset] [(.int ((Int32.ofNat (own_bf kg n i 0)) + (Int32.ofNat (own_bf kg n i 1))))])) _
      rw [own_addN (own_bf kg n i 0) (own_bf kg n i 1)]
      show Steps p.tables e below (T12.setTop (mkF m 25 #[.val (.ref so), .val (.ref ip), .val (.ref kk), .val (.int (Int32.ofNat n)), .val (.int (Int32.ofNat i)), .unset] [(.int (Int32.ofNat ((own_bf kg n i 0) + (own_bf kg n i 1))))])) _
      refine XS.aloadN X12.here hx rfl (own_hb hby d3_25) rfl rfl ?_
      show Steps p.tables e below (T12.setTop (mkF m 26 #[.val (.ref so), .val (.ref ip), .val (.ref kk), .val (.int (Int32.ofNat n)), .val (.int (Int32.ofNat i)), .unset] [(.ref kk), (.int (Int32.ofNat ((own_bf kg n i 0) + (own_bf kg n i 1))))])) _
      refine XS.iloadN X12.here hx rfl (own_hb hby d3_26) rfl ?_
      show Steps p.tables e below (T12.setTop (mkF m 27 #[.val (.ref so), .val (.ref ip), .val (.ref kk), .val (.int (Int32.ofNat n)), .val (.int (Int32.ofNat i)), .unset] [(.int (Int32.ofNat n)), (.ref kk), (.int (Int32.ofNat ((own_bf kg n i 0) + (own_bf kg n i 1))))])) _
      refine XS.iload X12.here hx rfl (own_hb hby d3_27) rfl ?_
      show Steps p.tables e below (T12.setTop (mkF m 29 #[.val (.ref so), .val (.ref ip), .val (.ref kk), .val (.int (Int32.ofNat n)), .val (.int (Int32.ofNat i)), .unset] [(.int (Int32.ofNat i)), (.int (Int32.ofNat n)), (.ref kk), (.int (Int32.ofNat ((own_bf kg n i 0) + (own_bf kg n i 1))))])) _
      refine XS.iconst X12.here hx rfl (own_hb hby d3_29) ?_
      exact kt
    obtain ⟨_, _, ⟨T13, L13, k13, n13⟩, -, X13, ⟨Lc13, hQ13, l13, y13, z13⟩, st13⟩ := Jvm.LawKit.callS X12 hx (y := (⟨"com/example/sagasu/sagasu/CountingSortByKeyPinLaw", "before", "([IIII)I"⟩ : MethodName)) hown (mvT hZ (hw _ (List.mem_of_getElem? (i := 12) rfl))) (mvT hZ (hw _ (List.mem_of_getElem? (i := 13) rfl))) (mvT hZ (hw _ (List.mem_of_getElem? (i := 3) rfl))) (mvT hZ (hw _ (List.mem_of_getElem? (i := 14) rfl))) (by decide) (backOf (W := 1) (rm4 l Z a0 hw [] kk n i 2 kg h0 n0 Z0 pr2 hn (by omega) (by decide) hk) hZ (hw _ (List.mem_of_getElem? (i := 14) rfl)) (hw _ (List.mem_of_getElem? (i := 3) rfl)) (by decide) (by decide)) (g := (mkF m 30 #[.val (.ref so), .val (.ref ip), .val (.ref kk), .val (.int (Int32.ofNat n)), .val (.int (Int32.ofNat i)), .unset] [(.int (2 : Int32)), (.int (Int32.ofNat i)), (.int (Int32.ofNat n)), (.ref kk), (.int (Int32.ofNat ((own_bf kg n i 0) + (own_bf kg n i 1))))])) rfl (by rw [hml]; rfl) (argsL := [(.ref kk), (.int (Int32.ofNat n)), (.int (Int32.ofNat i)), (.int (2 : Int32))]) (rest := [(.int (Int32.ofNat ((own_bf kg n i 0) + (own_bf kg n i 1))))]) (lenOf pd_0 rfl) rfl (by show 2 * 0 + _ ≤ _; exact Nat.le_of_eq rfl) (own_hb hby d3_30) (fun _ _ => ⟨rfl, hh12, (by decide : 0 + 0 ≤ _), (by decide : 0 + 0 ≤ _)⟩)
    dsimp only [Pt.U, Pt.locs, Pt.cells, Pt.slots] at X13 l13 y13 z13 st13 hQ13
    subst l13 y13 z13
    obtain ⟨rfl, N13q, hh13⟩ := hQ13
    have N13 := Fr.app N12 N13q
    refine own_Go.of (S' := (T13.setTop (mkF m 33 #[.val (.ref so), .val (.ref ip), .val (.ref kk), .val (.int (Int32.ofNat n)), .val (.int (Int32.ofNat i)), .unset] [(.int (Int32.ofNat (own_bf kg n i 2))), (.int (Int32.ofNat ((own_bf kg n i 0) + (own_bf kg n i 1))))]))) (fun t kt => st13 t kt) ?_
    refine own_Go.of (S' := (T13.setTop (mkF m 39 #[.val (.ref so), .val (.ref ip), .val (.ref kk), .val (.int (Int32.ofNat n)), .val (.int (Int32.ofNat i)), .unset] [(.int (3 : Int32)), (.int (Int32.ofNat i)), (.int (Int32.ofNat n)), (.ref kk), (.int (Int32.ofNat (((own_bf kg n i 0) + (own_bf kg n i 1)) + (own_bf kg n i 2))))]))) (fun t kt => ?_) ?_
    · show Steps p.tables e below (T13.setTop (mkF m 33 #[.val (.ref so), .val (.ref ip), .val (.ref kk), .val (.int (Int32.ofNat n)), .val (.int (Int32.ofNat i)), .unset] [(.int (Int32.ofNat (own_bf kg n i 2))), (.int (Int32.ofNat ((own_bf kg n i 0) + (own_bf kg n i 1))))])) _
      refine XS.iadd X13.here hx rfl (own_hb hby d3_33) rfl ?_
      show Steps p.tables e below (T13.setTop (mkF m 34 #[.val (.ref so), .val (.ref ip), .val (.ref kk), .val (.int (Int32.ofNat n)), .val (.int (Int32.ofNat i)), .unset] [(.int ((Int32.ofNat ((own_bf kg n i 0) + (own_bf kg n i 1))) + (Int32.ofNat (own_bf kg n i 2))))])) _
      rw [own_addN ((own_bf kg n i 0) + (own_bf kg n i 1)) (own_bf kg n i 2)]
      show Steps p.tables e below (T13.setTop (mkF m 34 #[.val (.ref so), .val (.ref ip), .val (.ref kk), .val (.int (Int32.ofNat n)), .val (.int (Int32.ofNat i)), .unset] [(.int (Int32.ofNat (((own_bf kg n i 0) + (own_bf kg n i 1)) + (own_bf kg n i 2))))])) _
      refine XS.aloadN X13.here hx rfl (own_hb hby d3_34) rfl rfl ?_
      show Steps p.tables e below (T13.setTop (mkF m 35 #[.val (.ref so), .val (.ref ip), .val (.ref kk), .val (.int (Int32.ofNat n)), .val (.int (Int32.ofNat i)), .unset] [(.ref kk), (.int (Int32.ofNat (((own_bf kg n i 0) + (own_bf kg n i 1)) + (own_bf kg n i 2))))])) _
      refine XS.iloadN X13.here hx rfl (own_hb hby d3_35) rfl ?_
      show Steps p.tables e below (T13.setTop (mkF m 36 #[.val (.ref so), .val (.ref ip), .val (.ref kk), .val (.int (Int32.ofNat n)), .val (.int (Int32.ofNat i)), .unset] [(.int (Int32.ofNat n)), (.ref kk), (.int (Int32.ofNat (((own_bf kg n i 0) + (own_bf kg n i 1)) + (own_bf kg n i 2))))])) _
      refine XS.iload X13.here hx rfl (own_hb hby d3_36) rfl ?_
      show Steps p.tables e below (T13.setTop (mkF m 38 #[.val (.ref so), .val (.ref ip), .val (.ref kk), .val (.int (Int32.ofNat n)), .val (.int (Int32.ofNat i)), .unset] [(.int (Int32.ofNat i)), (.int (Int32.ofNat n)), (.ref kk), (.int (Int32.ofNat (((own_bf kg n i 0) + (own_bf kg n i 1)) + (own_bf kg n i 2))))])) _
      refine XS.iconst X13.here hx rfl (own_hb hby d3_38) ?_
      exact kt
    obtain ⟨_, _, ⟨T14, L14, k14, n14⟩, -, X14, ⟨Lc14, hQ14, l14, y14, z14⟩, st14⟩ := Jvm.LawKit.callS X13 hx (y := (⟨"com/example/sagasu/sagasu/CountingSortByKeyPinLaw", "before", "([IIII)I"⟩ : MethodName)) hown (mvT hZ (hw _ (List.mem_of_getElem? (i := 12) rfl))) (mvT hZ (hw _ (List.mem_of_getElem? (i := 13) rfl))) (mvT hZ (hw _ (List.mem_of_getElem? (i := 3) rfl))) (mvT hZ (hw _ (List.mem_of_getElem? (i := 14) rfl))) (by decide) (backOf (W := 1) (rm4 l Z a0 hw [] kk n i 3 kg h0 n0 Z0 pr2 hn (by omega) (by decide) hk) hZ (hw _ (List.mem_of_getElem? (i := 14) rfl)) (hw _ (List.mem_of_getElem? (i := 3) rfl)) (by decide) (by decide)) (g := (mkF m 39 #[.val (.ref so), .val (.ref ip), .val (.ref kk), .val (.int (Int32.ofNat n)), .val (.int (Int32.ofNat i)), .unset] [(.int (3 : Int32)), (.int (Int32.ofNat i)), (.int (Int32.ofNat n)), (.ref kk), (.int (Int32.ofNat (((own_bf kg n i 0) + (own_bf kg n i 1)) + (own_bf kg n i 2))))])) rfl (by rw [hml]; rfl) (argsL := [(.ref kk), (.int (Int32.ofNat n)), (.int (Int32.ofNat i)), (.int (3 : Int32))]) (rest := [(.int (Int32.ofNat (((own_bf kg n i 0) + (own_bf kg n i 1)) + (own_bf kg n i 2))))]) (lenOf pd_0 rfl) rfl (by show 2 * 0 + _ ≤ _; exact Nat.le_of_eq rfl) (own_hb hby d3_39) (fun _ _ => ⟨rfl, hh13, (by decide : 0 + 0 ≤ _), (by decide : 0 + 0 ≤ _)⟩)
    dsimp only [Pt.U, Pt.locs, Pt.cells, Pt.slots] at X14 l14 y14 z14 st14 hQ14
    subst l14 y14 z14
    obtain ⟨rfl, N14q, hh14⟩ := hQ14
    have N14 := Fr.app N13 N14q
    refine own_Go.of (S' := (T14.setTop (mkF m 42 #[.val (.ref so), .val (.ref ip), .val (.ref kk), .val (.int (Int32.ofNat n)), .val (.int (Int32.ofNat i)), .unset] [(.int (Int32.ofNat (own_bf kg n i 3))), (.int (Int32.ofNat (((own_bf kg n i 0) + (own_bf kg n i 1)) + (own_bf kg n i 2))))]))) (fun t kt => st14 t kt) ?_
    refine own_Go.of (S' := (T14.setTop (mkF m 45 #[.val (.ref so), .val (.ref ip), .val (.ref kk), .val (.int (Int32.ofNat n)), .val (.int (Int32.ofNat i)), .val (.int (Int32.ofNat (own_rk kg n i)))] []))) (fun t kt => ?_) ?_
    · show Steps p.tables e below (T14.setTop (mkF m 42 #[.val (.ref so), .val (.ref ip), .val (.ref kk), .val (.int (Int32.ofNat n)), .val (.int (Int32.ofNat i)), .unset] [(.int (Int32.ofNat (own_bf kg n i 3))), (.int (Int32.ofNat (((own_bf kg n i 0) + (own_bf kg n i 1)) + (own_bf kg n i 2))))])) _
      refine XS.iadd X14.here hx rfl (own_hb hby d3_42) rfl ?_
      show Steps p.tables e below (T14.setTop (mkF m 43 #[.val (.ref so), .val (.ref ip), .val (.ref kk), .val (.int (Int32.ofNat n)), .val (.int (Int32.ofNat i)), .unset] [(.int ((Int32.ofNat (((own_bf kg n i 0) + (own_bf kg n i 1)) + (own_bf kg n i 2))) + (Int32.ofNat (own_bf kg n i 3))))])) _
      rw [own_addN (((own_bf kg n i 0) + (own_bf kg n i 1)) + (own_bf kg n i 2)) (own_bf kg n i 3)]
      show Steps p.tables e below (T14.setTop (mkF m 43 #[.val (.ref so), .val (.ref ip), .val (.ref kk), .val (.int (Int32.ofNat n)), .val (.int (Int32.ofNat i)), .unset] [(.int (Int32.ofNat ((((own_bf kg n i 0) + (own_bf kg n i 1)) + (own_bf kg n i 2)) + (own_bf kg n i 3))))])) _
      refine XS.istore X14.here hx rfl (own_hb hby d3_43) rfl (l' := #[.val (.ref so), .val (.ref ip), .val (.ref kk), .val (.int (Int32.ofNat n)), .val (.int (Int32.ofNat i)), .val (.int (Int32.ofNat ((((own_bf kg n i 0) + (own_bf kg n i 1)) + (own_bf kg n i 2)) + (own_bf kg n i 3))))]) rfl ?_
      exact kt
    obtain ⟨hr1, hr2⟩ := hpos (by omega)
    refine own_Go.of (S' := (T14.setTop (mkF m 48 #[.val (.ref so), .val (.ref ip), .val (.ref kk), .val (.int (Int32.ofNat n)), .val (.int (Int32.ofNat i)), .val (.int (Int32.ofNat (own_rk kg n i)))] [(.int (Int32.ofNat (own_rk kg n i))), (.ref so)]))) (fun t kt => ?_) ?_
    · show Steps p.tables e below (T14.setTop (mkF m 45 #[.val (.ref so), .val (.ref ip), .val (.ref kk), .val (.int (Int32.ofNat n)), .val (.int (Int32.ofNat i)), .val (.int (Int32.ofNat (own_rk kg n i)))] [])) _
      refine XS.aloadN X14.here hx rfl (own_hb hby d3_45) rfl rfl ?_
      show Steps p.tables e below (T14.setTop (mkF m 46 #[.val (.ref so), .val (.ref ip), .val (.ref kk), .val (.int (Int32.ofNat n)), .val (.int (Int32.ofNat i)), .val (.int (Int32.ofNat (own_rk kg n i)))] [(.ref so)])) _
      refine XS.iload X14.here hx rfl (own_hb hby d3_46) rfl ?_
      exact kt
    obtain ⟨cl15, Ar15, hin15, hat15⟩ := own_Ar.get (j := (Int32.ofNat (own_rk kg n i))) (k := (own_rk kg n i)) pr0 ⟨rfl, hr1⟩
    refine own_Go.of (S' := (T14.setTop (mkF m 52 #[.val (.ref so), .val (.ref ip), .val (.ref kk), .val (.int (Int32.ofNat n)), .val (.int (Int32.ofNat i)), .val (.int (Int32.ofNat (own_rk kg n i)))] [(.int (Int32.ofNat i)), (.ref ip), (.int (Int32.ofNat (sf (own_rk kg n i))))]))) (fun t kt => ?_) ?_
    · show Steps p.tables e below (T14.setTop (mkF m 48 #[.val (.ref so), .val (.ref ip), .val (.ref kk), .val (.int (Int32.ofNat n)), .val (.int (Int32.ofNat i)), .val (.int (Int32.ofNat (own_rk kg n i)))] [(.int (Int32.ofNat (own_rk kg n i))), (.ref so)])) _
      refine X14.iaload hx (j := (Int32.ofNat (own_rk kg n i))) (v := (.int (Int32.ofNat (sf (own_rk kg n i))))) (by rw [hh14]; exact Ar15.1) (State.isArrayOf_alike hZ.alike Ar15.2.1) Ar15.2.2 hin15 hat15 (g := (mkF m 48 #[.val (.ref so), .val (.ref ip), .val (.ref kk), .val (.int (Int32.ofNat n)), .val (.int (Int32.ofNat i)), .val (.int (Int32.ofNat (own_rk kg n i)))] [(.int (Int32.ofNat (own_rk kg n i))), (.ref so)])) rfl rfl (own_hb hby d3_48) _ ?_
      show Steps p.tables e below (T14.setTop (mkF m 49 #[.val (.ref so), .val (.ref ip), .val (.ref kk), .val (.int (Int32.ofNat n)), .val (.int (Int32.ofNat i)), .val (.int (Int32.ofNat (own_rk kg n i)))] [(.int (Int32.ofNat (sf (own_rk kg n i))))])) _
      refine XS.aloadN X14.here hx rfl (own_hb hby d3_49) rfl rfl ?_
      show Steps p.tables e below (T14.setTop (mkF m 50 #[.val (.ref so), .val (.ref ip), .val (.ref kk), .val (.int (Int32.ofNat n)), .val (.int (Int32.ofNat i)), .val (.int (Int32.ofNat (own_rk kg n i)))] [(.ref ip), (.int (Int32.ofNat (sf (own_rk kg n i))))])) _
      refine XS.iload X14.here hx rfl (own_hb hby d3_50) rfl ?_
      exact kt
    obtain ⟨cl16, Ar16, hin16, hat16⟩ := own_Ar.get (j := (Int32.ofNat i)) (k := i) pr1 ⟨rfl, hi⟩
    refine own_Go.of (S' := (T14.setTop (mkF m 61 #[.val (.ref so), .val (.ref ip), .val (.ref kk), .val (.int (Int32.ofNat n)), .val (.int (Int32.ofNat i)), .val (.int (Int32.ofNat (own_rk kg n i)))] [(.int (1 : Int32))]))) (fun t kt => ?_) ?_
    · show Steps p.tables e below (T14.setTop (mkF m 52 #[.val (.ref so), .val (.ref ip), .val (.ref kk), .val (.int (Int32.ofNat n)), .val (.int (Int32.ofNat i)), .val (.int (Int32.ofNat (own_rk kg n i)))] [(.int (Int32.ofNat i)), (.ref ip), (.int (Int32.ofNat (sf (own_rk kg n i))))])) _
      refine X14.iaload hx (j := (Int32.ofNat i)) (v := (.int (Int32.ofNat (g i)))) (by rw [hh14]; exact Ar16.1) (State.isArrayOf_alike hZ.alike Ar16.2.1) Ar16.2.2 hin16 hat16 (g := (mkF m 52 #[.val (.ref so), .val (.ref ip), .val (.ref kk), .val (.int (Int32.ofNat n)), .val (.int (Int32.ofNat i)), .val (.int (Int32.ofNat (own_rk kg n i)))] [(.int (Int32.ofNat i)), (.ref ip), (.int (Int32.ofNat (sf (own_rk kg n i))))])) rfl rfl (own_hb hby d3_52) _ ?_
      show Steps p.tables e below (T14.setTop (mkF m 53 #[.val (.ref so), .val (.ref ip), .val (.ref kk), .val (.int (Int32.ofNat n)), .val (.int (Int32.ofNat i)), .val (.int (Int32.ofNat (own_rk kg n i)))] [(.int (Int32.ofNat (g i))), (.int (Int32.ofNat (sf (own_rk kg n i))))])) _
      refine XS.icmpNo X14.here hx rfl (own_hb hby d3_53) rfl (teq (own_eqN' hr2)).2 ?_
      show Steps p.tables e below (T14.setTop (mkF m 56 #[.val (.ref so), .val (.ref ip), .val (.ref kk), .val (.int (Int32.ofNat n)), .val (.int (Int32.ofNat i)), .val (.int (Int32.ofNat (own_rk kg n i)))] [])) _
      refine XS.iconst X14.here hx rfl (own_hb hby d3_56) ?_
      show Steps p.tables e below (T14.setTop (mkF m 57 #[.val (.ref so), .val (.ref ip), .val (.ref kk), .val (.int (Int32.ofNat n)), .val (.int (Int32.ofNat i)), .val (.int (Int32.ofNat (own_rk kg n i)))] [(.int (1 : Int32))])) _
      refine XS.goto X14.here hx rfl (pc0 := 57) (pc' := 61) rfl (own_hb hby d3_57) (by decide) (by decide) ?_
      exact kt
    exact own_retN X14 hx hlk (t := .boolean) hret (by simp) (own_hb hby d3_61) hh14 ⟨rfl, N14, rfl⟩ (by decide) (by decide)
  · skip
    refine own_Go.of (S' := (T0.setTop (mkF m 7 #[.val (.ref so), .val (.ref ip), .val (.ref kk), .val (.int (Int32.ofNat n)), .val (.int (Int32.ofNat i)), .unset] [(.int (1 : Int32))]))) (fun t kt => ?_) ?_
    · show Steps p.tables e below (T0.setTop (mkF m 3 #[.val (.ref so), .val (.ref ip), .val (.ref kk), .val (.int (Int32.ofNat n)), .val (.int (Int32.ofNat i)), .unset] [(.int (Int32.ofNat n)), (.int (Int32.ofNat i))])) _
      refine XS.icmpNo X0.here hx rfl (own_hb hby d3_3) rfl (flt (fun q => hc3_10 ((own_ltN (by omega) (by omega)).mp q))).1 ?_
      show Steps p.tables e below (T0.setTop (mkF m 6 #[.val (.ref so), .val (.ref ip), .val (.ref kk), .val (.int (Int32.ofNat n)), .val (.int (Int32.ofNat i)), .unset] [])) _
      refine XS.iconst X0.here hx rfl (own_hb hby d3_6) ?_
      exact kt
    exact own_retN X0 hx hlk (t := .boolean) hret (by simp) (own_hb hby d3_7) e0 ⟨rfl, N0, rfl⟩ (by decide) (by decide)
def Q_rm2 (Z : State) (it : Addr) (ky : Addr) (rg : Nat) (n : Nat) (g : Nat → Nat) (kf : Nat → Nat) (h0 : Heap) (n0 : Nat) (v : Option Value) (h : Heap) (L : List Loc) : Prop := ∃ b : Addr, ∃ sf : Nat → Nat, v = some (.ref b) ∧ Fr n0 L ∧ Keep h0 h [] ∧ (h0.size ≤ b) ∧ (own_Ar Z h b .int n (own_I (own_N sf))) ∧ (∀ j, j < n → own_rank (fun j => kf (g j)) n j < n ∧ sf (own_rank (fun j => kf (g j)) n j) = g j)
theorem d2_0 : decode prog_7_method_2_code 0 = .ok (.iload_n 2, 1) := by decide +kernel
theorem d2_1 : decode prog_7_method_2_code 1 = .ok (.iconst 1, 1) := by decide +kernel
theorem d2_2 : decode prog_7_method_2_code 2 = .ok (.iadd, 1) := by decide +kernel
theorem d2_3 : decode prog_7_method_2_code 3 = .ok (.newarray .int, 2) := by decide +kernel
theorem d2_5 : decode prog_7_method_2_code 5 = .ok (.astore_n 3, 1) := by decide +kernel
theorem d2_6 : decode prog_7_method_2_code 6 = .ok (.aload_n 0, 1) := by decide +kernel
theorem d2_7 : decode prog_7_method_2_code 7 = .ok (.astore 4, 2) := by decide +kernel
theorem d2_9 : decode prog_7_method_2_code 9 = .ok (.aload 4, 2) := by decide +kernel
theorem d2_11 : decode prog_7_method_2_code 11 = .ok (.arraylength, 1) := by decide +kernel
theorem d2_12 : decode prog_7_method_2_code 12 = .ok (.istore 5, 2) := by decide +kernel
theorem d2_14 : decode prog_7_method_2_code 14 = .ok (.iconst 0, 1) := by decide +kernel
theorem d2_15 : decode prog_7_method_2_code 15 = .ok (.istore 6, 2) := by decide +kernel
theorem d2_17 : decode prog_7_method_2_code 17 = .ok (.iload 6, 2) := by decide +kernel
theorem d2_19 : decode prog_7_method_2_code 19 = .ok (.iload 5, 2) := by decide +kernel
theorem d2_21 : decode prog_7_method_2_code 21 = .ok (.if_icmp .ge 28, 3) := by decide +kernel
theorem d2_24 : decode prog_7_method_2_code 24 = .ok (.aload 4, 2) := by decide +kernel
theorem d2_26 : decode prog_7_method_2_code 26 = .ok (.iload 6, 2) := by decide +kernel
theorem d2_28 : decode prog_7_method_2_code 28 = .ok (.iaload, 1) := by decide +kernel
theorem d2_29 : decode prog_7_method_2_code 29 = .ok (.istore 7, 2) := by decide +kernel
theorem d2_31 : decode prog_7_method_2_code 31 = .ok (.aload_n 3, 1) := by decide +kernel
theorem d2_32 : decode prog_7_method_2_code 32 = .ok (.aload_n 1, 1) := by decide +kernel
theorem d2_33 : decode prog_7_method_2_code 33 = .ok (.iload 7, 2) := by decide +kernel
theorem d2_35 : decode prog_7_method_2_code 35 = .ok (.iaload, 1) := by decide +kernel
theorem d2_36 : decode prog_7_method_2_code 36 = .ok (.iconst 1, 1) := by decide +kernel
theorem d2_37 : decode prog_7_method_2_code 37 = .ok (.iadd, 1) := by decide +kernel
theorem d2_38 : decode prog_7_method_2_code 38 = .ok (.dup2, 1) := by decide +kernel
theorem d2_39 : decode prog_7_method_2_code 39 = .ok (.iaload, 1) := by decide +kernel
theorem d2_40 : decode prog_7_method_2_code 40 = .ok (.iconst 1, 1) := by decide +kernel
theorem d2_41 : decode prog_7_method_2_code 41 = .ok (.iadd, 1) := by decide +kernel
theorem d2_42 : decode prog_7_method_2_code 42 = .ok (.iastore, 1) := by decide +kernel
theorem d2_43 : decode prog_7_method_2_code 43 = .ok (.iinc 6 1, 3) := by decide +kernel
theorem d2_46 : decode prog_7_method_2_code 46 = .ok (.goto (-29), 3) := by decide +kernel
theorem d2_49 : decode prog_7_method_2_code 49 = .ok (.iconst 0, 1) := by decide +kernel
theorem d2_50 : decode prog_7_method_2_code 50 = .ok (.istore 4, 2) := by decide +kernel
theorem d2_52 : decode prog_7_method_2_code 52 = .ok (.iload 4, 2) := by decide +kernel
theorem d2_54 : decode prog_7_method_2_code 54 = .ok (.iload_n 2, 1) := by decide +kernel
theorem d2_55 : decode prog_7_method_2_code 55 = .ok (.if_icmp .ge 22, 3) := by decide +kernel
theorem d2_58 : decode prog_7_method_2_code 58 = .ok (.aload_n 3, 1) := by decide +kernel
theorem d2_59 : decode prog_7_method_2_code 59 = .ok (.iload 4, 2) := by decide +kernel
theorem d2_61 : decode prog_7_method_2_code 61 = .ok (.iconst 1, 1) := by decide +kernel
theorem d2_62 : decode prog_7_method_2_code 62 = .ok (.iadd, 1) := by decide +kernel
theorem d2_63 : decode prog_7_method_2_code 63 = .ok (.dup2, 1) := by decide +kernel
theorem d2_64 : decode prog_7_method_2_code 64 = .ok (.iaload, 1) := by decide +kernel
theorem d2_65 : decode prog_7_method_2_code 65 = .ok (.aload_n 3, 1) := by decide +kernel
theorem d2_66 : decode prog_7_method_2_code 66 = .ok (.iload 4, 2) := by decide +kernel
theorem d2_68 : decode prog_7_method_2_code 68 = .ok (.iaload, 1) := by decide +kernel
theorem d2_69 : decode prog_7_method_2_code 69 = .ok (.iadd, 1) := by decide +kernel
theorem d2_70 : decode prog_7_method_2_code 70 = .ok (.iastore, 1) := by decide +kernel
theorem d2_71 : decode prog_7_method_2_code 71 = .ok (.iinc 4 1, 3) := by decide +kernel
theorem d2_74 : decode prog_7_method_2_code 74 = .ok (.goto (-22), 3) := by decide +kernel
theorem d2_77 : decode prog_7_method_2_code 77 = .ok (.aload_n 0, 1) := by decide +kernel
theorem d2_78 : decode prog_7_method_2_code 78 = .ok (.arraylength, 1) := by decide +kernel
theorem d2_79 : decode prog_7_method_2_code 79 = .ok (.newarray .int, 2) := by decide +kernel
theorem d2_81 : decode prog_7_method_2_code 81 = .ok (.astore 4, 2) := by decide +kernel
theorem d2_83 : decode prog_7_method_2_code 83 = .ok (.aload_n 0, 1) := by decide +kernel
theorem d2_84 : decode prog_7_method_2_code 84 = .ok (.astore 5, 2) := by decide +kernel
theorem d2_86 : decode prog_7_method_2_code 86 = .ok (.aload 5, 2) := by decide +kernel
theorem d2_88 : decode prog_7_method_2_code 88 = .ok (.arraylength, 1) := by decide +kernel
theorem d2_89 : decode prog_7_method_2_code 89 = .ok (.istore 6, 2) := by decide +kernel
theorem d2_91 : decode prog_7_method_2_code 91 = .ok (.iconst 0, 1) := by decide +kernel
theorem d2_92 : decode prog_7_method_2_code 92 = .ok (.istore 7, 2) := by decide +kernel
theorem d2_94 : decode prog_7_method_2_code 94 = .ok (.iload 7, 2) := by decide +kernel
theorem d2_96 : decode prog_7_method_2_code 96 = .ok (.iload 6, 2) := by decide +kernel
theorem d2_98 : decode prog_7_method_2_code 98 = .ok (.if_icmp .ge 32, 3) := by decide +kernel
theorem d2_101 : decode prog_7_method_2_code 101 = .ok (.aload 5, 2) := by decide +kernel
theorem d2_103 : decode prog_7_method_2_code 103 = .ok (.iload 7, 2) := by decide +kernel
theorem d2_105 : decode prog_7_method_2_code 105 = .ok (.iaload, 1) := by decide +kernel
theorem d2_106 : decode prog_7_method_2_code 106 = .ok (.istore 8, 2) := by decide +kernel
theorem d2_108 : decode prog_7_method_2_code 108 = .ok (.aload 4, 2) := by decide +kernel
theorem d2_110 : decode prog_7_method_2_code 110 = .ok (.aload_n 3, 1) := by decide +kernel
theorem d2_111 : decode prog_7_method_2_code 111 = .ok (.aload_n 1, 1) := by decide +kernel
theorem d2_112 : decode prog_7_method_2_code 112 = .ok (.iload 8, 2) := by decide +kernel
theorem d2_114 : decode prog_7_method_2_code 114 = .ok (.iaload, 1) := by decide +kernel
theorem d2_115 : decode prog_7_method_2_code 115 = .ok (.dup2, 1) := by decide +kernel
theorem d2_116 : decode prog_7_method_2_code 116 = .ok (.iaload, 1) := by decide +kernel
theorem d2_117 : decode prog_7_method_2_code 117 = .ok (.dup_x2, 1) := by decide +kernel
theorem d2_118 : decode prog_7_method_2_code 118 = .ok (.iconst 1, 1) := by decide +kernel
theorem d2_119 : decode prog_7_method_2_code 119 = .ok (.iadd, 1) := by decide +kernel
theorem d2_120 : decode prog_7_method_2_code 120 = .ok (.iastore, 1) := by decide +kernel
theorem d2_121 : decode prog_7_method_2_code 121 = .ok (.iload 8, 2) := by decide +kernel
theorem d2_123 : decode prog_7_method_2_code 123 = .ok (.iastore, 1) := by decide +kernel
theorem d2_124 : decode prog_7_method_2_code 124 = .ok (.iinc 7 1, 3) := by decide +kernel
theorem d2_127 : decode prog_7_method_2_code 127 = .ok (.goto (-33), 3) := by decide +kernel
theorem d2_130 : decode prog_7_method_2_code 130 = .ok (.aload 4, 2) := by decide +kernel
theorem d2_132 : decode prog_7_method_2_code 132 = .ok (.areturn, 1) := by decide +kernel
theorem pn_2 : plainName "com/example/sagasu/sagasu/CountingSort" = true := by first | (simp [plainName, overriddenIn]; done) | decide +kernel
set_option maxRecDepth 65536 in
set_option maxHeartbeats 40000000 in
theorem loop3 {p : Program} {l : Launch} {e : Env} {s : State} {m : MethodId} {below : List Frame} {meth : Method} {c : Code} {Z : State} {a0 : Array Value} (hw : ∀ d ∈ tables_1, d.before a0 Z = true) (hx : p.tables.exec = Jvm.exec) (hZ : Z.Warmed39 s.vm) (hby : c.code = prog_7_method_2_code) (hml : c.maxLocals = 9) (hret : meth.sig.returnType = some (.array .int)) (hlk : meth.locks = false) (hown : s.vm.findClass "com/example/sagasu/sagasu/CountingSort" = some m.cls) (hnm : meth.name = "byKey") (it : Addr) (ky : Addr) (rg : Nat) (n : Nat) (g : Nat → Nat) (kf : Nat → Nat) (h0 : Heap) (n0 : Nat) (st : Addr) (so : Addr) (hn : n ≤ 4) (hrg : rg ≤ 7) (hg : ∀ j, j < n → g j < 4 ∧ kf (g j) < rg) (fi3 : n0 ≤ st) (szst : h0.size ≤ st) (fi5 : it ≠ st) (fi6 : ky ≠ st) (fi7 : n0 ≤ so) (szso : h0.size ≤ so) (fi9 : it ≠ so) (fi10 : ky ≠ so) (fi11 : st ≠ so) :
    ∀ (k : Nat) (i : Nat) (sl : Slot) {T1 : State} {h1 : Heap} {locs : List Loc}, Stand p l e ({ frames := 0, cells := 2, slots := 12, locals := 0 } : Room) s m #[(.ref it), (.ref ky), (.int (Int32.ofNat rg))] below meth c T1 locs 2 12 → T1.heap = h1 → Fr n0 locs → n0 ≤ h1.size → (i + k = n) → (sl = .unset ∨ ∃ w, sl = .val w ∧ w.category = 1) → (own_Ar Z h1 it .int n (own_I (own_N g))) → (own_Ar Z h1 ky .int 4 (own_I (own_N kf))) → (own_Ar Z h1 st .int (rg + 1) (own_I (own_N (own_St (own_C2 (own_C1 (fun j => kf (g j)) n) rg) (fun j => kf (g j)) i)))) → (own_Ar Z h1 so .int n (own_I (own_N (own_So (own_C2 (own_C1 (fun j => kf (g j)) n) rg) (fun j => kf (g j)) g i)))) → (Keep h0 h1 []) → 
    own_Go p e below (T1.setTop (mkF m 94 #[.val (.ref it), .val (.ref ky), .val (.int (Int32.ofNat rg)), .val (.ref st), .val (.ref so), .val (.ref it), .val (.int (Int32.ofNat n)), .val (.int (Int32.ofNat i)), sl] [])) (own_End s (Q_rm2 Z it ky rg n g kf h0 n0) ({ frames := 0, cells := 2, slots := 12, locals := 0 } : Room).cells ({ frames := 0, cells := 2, slots := 12, locals := 0 } : Room).slots) := by
  intro k
  induction k with
  | zero =>
    intro i sl T1 h1 locs X1 e1 N1 Z1 hik hsl pr2 pr3 pr4 pr5 kp1
    refine own_Go.of (S' := (T1.setTop (mkF m 132 #[.val (.ref it), .val (.ref ky), .val (.int (Int32.ofNat rg)), .val (.ref st), .val (.ref so), .val (.ref it), .val (.int (Int32.ofNat n)), .val (.int (Int32.ofNat i)), sl] [(.ref so)]))) (fun t kt => ?_) ?_
    · show Steps p.tables e below (T1.setTop (mkF m 94 #[.val (.ref it), .val (.ref ky), .val (.int (Int32.ofNat rg)), .val (.ref st), .val (.ref so), .val (.ref it), .val (.int (Int32.ofNat n)), .val (.int (Int32.ofNat i)), sl] [])) _
      refine XS.iload X1.here hx rfl (own_hb hby d2_94) rfl ?_
      show Steps p.tables e below (T1.setTop (mkF m 96 #[.val (.ref it), .val (.ref ky), .val (.int (Int32.ofNat rg)), .val (.ref st), .val (.ref so), .val (.ref it), .val (.int (Int32.ofNat n)), .val (.int (Int32.ofNat i)), sl] [(.int (Int32.ofNat i))])) _
      refine XS.iload X1.here hx rfl (own_hb hby d2_96) rfl ?_
      show Steps p.tables e below (T1.setTop (mkF m 98 #[.val (.ref it), .val (.ref ky), .val (.int (Int32.ofNat rg)), .val (.ref st), .val (.ref so), .val (.ref it), .val (.int (Int32.ofNat n)), .val (.int (Int32.ofNat i)), sl] [(.int (Int32.ofNat n)), (.int (Int32.ofNat i))])) _
      refine XS.icmpYes X1.here hx rfl (pc0 := 98) (pc' := 130) rfl (own_hb hby d2_98) rfl (flt (fun q => by have h2 := (own_ltN (by omega) (by omega)).mp q; omega)).2.1 (by decide) (by decide) ?_
      show Steps p.tables e below (T1.setTop (mkF m 130 #[.val (.ref it), .val (.ref ky), .val (.int (Int32.ofNat rg)), .val (.ref st), .val (.ref so), .val (.ref it), .val (.int (Int32.ofNat n)), .val (.int (Int32.ofNat i)), sl] [])) _
      refine XS.aload X1.here hx rfl (own_hb hby d2_130) rfl rfl ?_
      exact kt
    exact own_retA X1 hx hlk hret rfl rfl (own_hb hby d2_132) e1 ⟨so, own_So (own_C2 (own_C1 (fun j => kf (g j)) n) rg) (fun j => kf (g j)) g n, rfl, N1, kp1, szso, by have q := pr5; rw [show i = n by omega] at q; exact q, own_sorted (fun j => kf (g j)) g n rg (fun j hj => (hg j hj).2)⟩ (by decide) (by decide)
  | succ k ih =>
    intro i sl T1 h1 locs X1 e1 N1 Z1 hik hsl pr2 pr3 pr4 pr5 kp1
    obtain ⟨hg1, hg2⟩ := hg i (by omega)
    have hri := (own_place (fun j => kf (g j)) n rg (fun j hj => (hg j hj).2)) i (by omega)
    refine own_Go.of (S' := (T1.setTop (mkF m 105 #[.val (.ref it), .val (.ref ky), .val (.int (Int32.ofNat rg)), .val (.ref st), .val (.ref so), .val (.ref it), .val (.int (Int32.ofNat n)), .val (.int (Int32.ofNat i)), sl] [(.int (Int32.ofNat i)), (.ref it)]))) (fun t kt => ?_) ?_
    · show Steps p.tables e below (T1.setTop (mkF m 94 #[.val (.ref it), .val (.ref ky), .val (.int (Int32.ofNat rg)), .val (.ref st), .val (.ref so), .val (.ref it), .val (.int (Int32.ofNat n)), .val (.int (Int32.ofNat i)), sl] [])) _
      refine XS.iload X1.here hx rfl (own_hb hby d2_94) rfl ?_
      show Steps p.tables e below (T1.setTop (mkF m 96 #[.val (.ref it), .val (.ref ky), .val (.int (Int32.ofNat rg)), .val (.ref st), .val (.ref so), .val (.ref it), .val (.int (Int32.ofNat n)), .val (.int (Int32.ofNat i)), sl] [(.int (Int32.ofNat i))])) _
      refine XS.iload X1.here hx rfl (own_hb hby d2_96) rfl ?_
      show Steps p.tables e below (T1.setTop (mkF m 98 #[.val (.ref it), .val (.ref ky), .val (.int (Int32.ofNat rg)), .val (.ref st), .val (.ref so), .val (.ref it), .val (.int (Int32.ofNat n)), .val (.int (Int32.ofNat i)), sl] [(.int (Int32.ofNat n)), (.int (Int32.ofNat i))])) _
      refine XS.icmpNo X1.here hx rfl (own_hb hby d2_98) rfl (tlt ((own_ltN (by omega) (by omega)).mpr (by omega))).2.1 ?_
      show Steps p.tables e below (T1.setTop (mkF m 101 #[.val (.ref it), .val (.ref ky), .val (.int (Int32.ofNat rg)), .val (.ref st), .val (.ref so), .val (.ref it), .val (.int (Int32.ofNat n)), .val (.int (Int32.ofNat i)), sl] [])) _
      refine XS.aload X1.here hx rfl (own_hb hby d2_101) rfl rfl ?_
      show Steps p.tables e below (T1.setTop (mkF m 103 #[.val (.ref it), .val (.ref ky), .val (.int (Int32.ofNat rg)), .val (.ref st), .val (.ref so), .val (.ref it), .val (.int (Int32.ofNat n)), .val (.int (Int32.ofNat i)), sl] [(.ref it)])) _
      refine XS.iload X1.here hx rfl (own_hb hby d2_103) rfl ?_
      exact kt
    obtain ⟨cl17, Ar17, hin17, hat17⟩ := own_Ar.get (j := (Int32.ofNat i)) (k := i) pr2 ⟨rfl, by omega⟩
    refine own_Go.of (S' := (T1.setTop (mkF m 114 #[.val (.ref it), .val (.ref ky), .val (.int (Int32.ofNat rg)), .val (.ref st), .val (.ref so), .val (.ref it), .val (.int (Int32.ofNat n)), .val (.int (Int32.ofNat i)), .val (.int (Int32.ofNat (g i)))] [(.int (Int32.ofNat (g i))), (.ref ky), (.ref st), (.ref so)]))) (fun t kt => ?_) ?_
    · show Steps p.tables e below (T1.setTop (mkF m 105 #[.val (.ref it), .val (.ref ky), .val (.int (Int32.ofNat rg)), .val (.ref st), .val (.ref so), .val (.ref it), .val (.int (Int32.ofNat n)), .val (.int (Int32.ofNat i)), sl] [(.int (Int32.ofNat i)), (.ref it)])) _
      refine X1.iaload hx (j := (Int32.ofNat i)) (v := (.int (Int32.ofNat (g i)))) (by rw [e1]; exact Ar17.1) (State.isArrayOf_alike hZ.alike Ar17.2.1) Ar17.2.2 hin17 hat17 (g := (mkF m 105 #[.val (.ref it), .val (.ref ky), .val (.int (Int32.ofNat rg)), .val (.ref st), .val (.ref so), .val (.ref it), .val (.int (Int32.ofNat n)), .val (.int (Int32.ofNat i)), sl] [(.int (Int32.ofNat i)), (.ref it)])) rfl rfl (own_hb hby d2_105) _ ?_
      show Steps p.tables e below (T1.setTop (mkF m 106 #[.val (.ref it), .val (.ref ky), .val (.int (Int32.ofNat rg)), .val (.ref st), .val (.ref so), .val (.ref it), .val (.int (Int32.ofNat n)), .val (.int (Int32.ofNat i)), sl] [(.int (Int32.ofNat (g i)))])) _
      refine XS.istore X1.here hx rfl (own_hb hby d2_106) rfl (l' := #[.val (.ref it), .val (.ref ky), .val (.int (Int32.ofNat rg)), .val (.ref st), .val (.ref so), .val (.ref it), .val (.int (Int32.ofNat n)), .val (.int (Int32.ofNat i)), .val (.int (Int32.ofNat (g i)))]) (own_st1 (by rfl) hsl rfl) ?_
      show Steps p.tables e below (T1.setTop (mkF m 108 #[.val (.ref it), .val (.ref ky), .val (.int (Int32.ofNat rg)), .val (.ref st), .val (.ref so), .val (.ref it), .val (.int (Int32.ofNat n)), .val (.int (Int32.ofNat i)), .val (.int (Int32.ofNat (g i)))] [])) _
      refine XS.aload X1.here hx rfl (own_hb hby d2_108) rfl rfl ?_
      show Steps p.tables e below (T1.setTop (mkF m 110 #[.val (.ref it), .val (.ref ky), .val (.int (Int32.ofNat rg)), .val (.ref st), .val (.ref so), .val (.ref it), .val (.int (Int32.ofNat n)), .val (.int (Int32.ofNat i)), .val (.int (Int32.ofNat (g i)))] [(.ref so)])) _
      refine XS.aloadN X1.here hx rfl (own_hb hby d2_110) rfl rfl ?_
      show Steps p.tables e below (T1.setTop (mkF m 111 #[.val (.ref it), .val (.ref ky), .val (.int (Int32.ofNat rg)), .val (.ref st), .val (.ref so), .val (.ref it), .val (.int (Int32.ofNat n)), .val (.int (Int32.ofNat i)), .val (.int (Int32.ofNat (g i)))] [(.ref st), (.ref so)])) _
      refine XS.aloadN X1.here hx rfl (own_hb hby d2_111) rfl rfl ?_
      show Steps p.tables e below (T1.setTop (mkF m 112 #[.val (.ref it), .val (.ref ky), .val (.int (Int32.ofNat rg)), .val (.ref st), .val (.ref so), .val (.ref it), .val (.int (Int32.ofNat n)), .val (.int (Int32.ofNat i)), .val (.int (Int32.ofNat (g i)))] [(.ref ky), (.ref st), (.ref so)])) _
      refine XS.iload X1.here hx rfl (own_hb hby d2_112) rfl ?_
      exact kt
    obtain ⟨cl18, Ar18, hin18, hat18⟩ := own_Ar.get (j := (Int32.ofNat (g i))) (k := (g i)) pr3 ⟨rfl, hg1⟩
    refine own_Go.of (S' := (T1.setTop (mkF m 116 #[.val (.ref it), .val (.ref ky), .val (.int (Int32.ofNat rg)), .val (.ref st), .val (.ref so), .val (.ref it), .val (.int (Int32.ofNat n)), .val (.int (Int32.ofNat i)), .val (.int (Int32.ofNat (g i)))] [(.int (Int32.ofNat (kf (g i)))), (.ref st), (.int (Int32.ofNat (kf (g i)))), (.ref st), (.ref so)]))) (fun t kt => ?_) ?_
    · show Steps p.tables e below (T1.setTop (mkF m 114 #[.val (.ref it), .val (.ref ky), .val (.int (Int32.ofNat rg)), .val (.ref st), .val (.ref so), .val (.ref it), .val (.int (Int32.ofNat n)), .val (.int (Int32.ofNat i)), .val (.int (Int32.ofNat (g i)))] [(.int (Int32.ofNat (g i))), (.ref ky), (.ref st), (.ref so)])) _
      refine X1.iaload hx (j := (Int32.ofNat (g i))) (v := (.int (Int32.ofNat (kf (g i))))) (by rw [e1]; exact Ar18.1) (State.isArrayOf_alike hZ.alike Ar18.2.1) Ar18.2.2 hin18 hat18 (g := (mkF m 114 #[.val (.ref it), .val (.ref ky), .val (.int (Int32.ofNat rg)), .val (.ref st), .val (.ref so), .val (.ref it), .val (.int (Int32.ofNat n)), .val (.int (Int32.ofNat i)), .val (.int (Int32.ofNat (g i)))] [(.int (Int32.ofNat (g i))), (.ref ky), (.ref st), (.ref so)])) rfl rfl (own_hb hby d2_114) _ ?_
      show Steps p.tables e below (T1.setTop (mkF m 115 #[.val (.ref it), .val (.ref ky), .val (.int (Int32.ofNat rg)), .val (.ref st), .val (.ref so), .val (.ref it), .val (.int (Int32.ofNat n)), .val (.int (Int32.ofNat i)), .val (.int (Int32.ofNat (g i)))] [(.int (Int32.ofNat (kf (g i)))), (.ref st), (.ref so)])) _
      refine own_dup2 X1.here hx rfl (own_hb hby d2_115) rfl rfl rfl ?_
      exact kt
    obtain ⟨cl19, Ar19, hin19, hat19⟩ := own_Ar.get (j := (Int32.ofNat (kf (g i)))) (k := (kf (g i))) pr4 ⟨rfl, by omega⟩
    refine own_Go.of (S' := (T1.setTop (mkF m 120 #[.val (.ref it), .val (.ref ky), .val (.int (Int32.ofNat rg)), .val (.ref st), .val (.ref so), .val (.ref it), .val (.int (Int32.ofNat n)), .val (.int (Int32.ofNat i)), .val (.int (Int32.ofNat (g i)))] [(.int (Int32.ofNat ((own_St (own_C2 (own_C1 (fun j => kf (g j)) n) rg) (fun j => kf (g j)) i) (kf (g i)) + 1))), (.int (Int32.ofNat (kf (g i)))), (.ref st), (.int (Int32.ofNat ((own_St (own_C2 (own_C1 (fun j => kf (g j)) n) rg) (fun j => kf (g j)) i) (kf (g i))))), (.ref so)]))) (fun t kt => ?_) ?_
    · show Steps p.tables e below (T1.setTop (mkF m 116 #[.val (.ref it), .val (.ref ky), .val (.int (Int32.ofNat rg)), .val (.ref st), .val (.ref so), .val (.ref it), .val (.int (Int32.ofNat n)), .val (.int (Int32.ofNat i)), .val (.int (Int32.ofNat (g i)))] [(.int (Int32.ofNat (kf (g i)))), (.ref st), (.int (Int32.ofNat (kf (g i)))), (.ref st), (.ref so)])) _
      refine X1.iaload hx (j := (Int32.ofNat (kf (g i)))) (v := (.int (Int32.ofNat ((own_St (own_C2 (own_C1 (fun j => kf (g j)) n) rg) (fun j => kf (g j)) i) (kf (g i)))))) (by rw [e1]; exact Ar19.1) (State.isArrayOf_alike hZ.alike Ar19.2.1) Ar19.2.2 hin19 hat19 (g := (mkF m 116 #[.val (.ref it), .val (.ref ky), .val (.int (Int32.ofNat rg)), .val (.ref st), .val (.ref so), .val (.ref it), .val (.int (Int32.ofNat n)), .val (.int (Int32.ofNat i)), .val (.int (Int32.ofNat (g i)))] [(.int (Int32.ofNat (kf (g i)))), (.ref st), (.int (Int32.ofNat (kf (g i)))), (.ref st), (.ref so)])) rfl rfl (own_hb hby d2_116) _ ?_
      show Steps p.tables e below (T1.setTop (mkF m 117 #[.val (.ref it), .val (.ref ky), .val (.int (Int32.ofNat rg)), .val (.ref st), .val (.ref so), .val (.ref it), .val (.int (Int32.ofNat n)), .val (.int (Int32.ofNat i)), .val (.int (Int32.ofNat (g i)))] [(.int (Int32.ofNat ((own_St (own_C2 (own_C1 (fun j => kf (g j)) n) rg) (fun j => kf (g j)) i) (kf (g i))))), (.int (Int32.ofNat (kf (g i)))), (.ref st), (.ref so)])) _
      jvm_step X1.here [X1.here.top, hx, (own_hb hby d2_117), Value.category]
      show Steps p.tables e below (T1.setTop (mkF m 118 #[.val (.ref it), .val (.ref ky), .val (.int (Int32.ofNat rg)), .val (.ref st), .val (.ref so), .val (.ref it), .val (.int (Int32.ofNat n)), .val (.int (Int32.ofNat i)), .val (.int (Int32.ofNat (g i)))] [(.int (Int32.ofNat ((own_St (own_C2 (own_C1 (fun j => kf (g j)) n) rg) (fun j => kf (g j)) i) (kf (g i))))), (.int (Int32.ofNat (kf (g i)))), (.ref st), (.int (Int32.ofNat ((own_St (own_C2 (own_C1 (fun j => kf (g j)) n) rg) (fun j => kf (g j)) i) (kf (g i))))), (.ref so)])) _
      refine XS.iconst X1.here hx rfl (own_hb hby d2_118) ?_
      show Steps p.tables e below (T1.setTop (mkF m 119 #[.val (.ref it), .val (.ref ky), .val (.int (Int32.ofNat rg)), .val (.ref st), .val (.ref so), .val (.ref it), .val (.int (Int32.ofNat n)), .val (.int (Int32.ofNat i)), .val (.int (Int32.ofNat (g i)))] [(.int (1 : Int32)), (.int (Int32.ofNat ((own_St (own_C2 (own_C1 (fun j => kf (g j)) n) rg) (fun j => kf (g j)) i) (kf (g i))))), (.int (Int32.ofNat (kf (g i)))), (.ref st), (.int (Int32.ofNat ((own_St (own_C2 (own_C1 (fun j => kf (g j)) n) rg) (fun j => kf (g j)) i) (kf (g i))))), (.ref so)])) _
      refine XS.iadd X1.here hx rfl (own_hb hby d2_119) rfl ?_
      show Steps p.tables e below (T1.setTop (mkF m 120 #[.val (.ref it), .val (.ref ky), .val (.int (Int32.ofNat rg)), .val (.ref st), .val (.ref so), .val (.ref it), .val (.int (Int32.ofNat n)), .val (.int (Int32.ofNat i)), .val (.int (Int32.ofNat (g i)))] [(.int ((Int32.ofNat ((own_St (own_C2 (own_C1 (fun j => kf (g j)) n) rg) (fun j => kf (g j)) i) (kf (g i)))) + (1 : Int32))), (.int (Int32.ofNat (kf (g i)))), (.ref st), (.int (Int32.ofNat ((own_St (own_C2 (own_C1 (fun j => kf (g j)) n) rg) (fun j => kf (g j)) i) (kf (g i))))), (.ref so)])) _
      rw [show Int32.ofNat ((own_St (own_C2 (own_C1 (fun j => kf (g j)) n) rg) (fun j => kf (g j)) i) (kf (g i))) + (1 : Int32) = Int32.ofNat ((own_St (own_C2 (own_C1 (fun j => kf (g j)) n) rg) (fun j => kf (g j)) i) (kf (g i)) + 1) from own_addN _ 1]
      exact kt
    obtain ⟨cl20, Ar20, hin20, ub20⟩ := own_Ar.put (j := (Int32.ofNat (kf (g i)))) (k := (kf (g i))) pr4 ⟨rfl, by omega⟩
    obtain ⟨T20, h20, X20, e20, W20, st20⟩ := stI X1 hx hZ e1 Ar20 (j := (Int32.ofNat (kf (g i)))) hin20 (g := (mkF m 120 #[.val (.ref it), .val (.ref ky), .val (.int (Int32.ofNat rg)), .val (.ref st), .val (.ref so), .val (.ref it), .val (.int (Int32.ofNat n)), .val (.int (Int32.ofNat i)), .val (.int (Int32.ofNat (g i)))] [(.int (Int32.ofNat ((own_St (own_C2 (own_C1 (fun j => kf (g j)) n) rg) (fun j => kf (g j)) i) (kf (g i)) + 1))), (.int (Int32.ofNat (kf (g i)))), (.ref st), (.int (Int32.ofNat ((own_St (own_C2 (own_C1 (fun j => kf (g j)) n) rg) (fun j => kf (g j)) i) (kf (g i))))), (.ref so)])) rfl rfl (own_hb hby d2_120)
    refine own_Go.of (S' := (T20.setTop (mkF m 121 #[.val (.ref it), .val (.ref ky), .val (.int (Int32.ofNat rg)), .val (.ref st), .val (.ref so), .val (.ref it), .val (.int (Int32.ofNat n)), .val (.int (Int32.ofNat i)), .val (.int (Int32.ofNat (g i)))] [(.int (Int32.ofNat ((own_St (own_C2 (own_C1 (fun j => kf (g j)) n) rg) (fun j => kf (g j)) i) (kf (g i))))), (.ref so)]))) st20 ?_
    have f21 := pr2.other W20 fi5
    have f22 := pr3.other W20 fi6
    have f23 := pr5.other W20 (Ne.symm fi11)
    have z24 := Nat.le_trans Z1 (Keep.of_wr W20).1
    have kp25 := kp1.wr W20 (Or.inr szst)
    have f26 : own_Ar Z h20 st .int (rg + 1) (own_I (own_N (own_ns (own_St (own_C2 (own_C1 (fun j => kf (g j)) n) rg) (fun j => kf (g j)) i) (kf (g i)) ((own_St (own_C2 (own_C1 (fun j => kf (g j)) n) rg) (fun j => kf (g j)) i) (kf (g i)) + 1)))) := by rw [← own_NI]; exact ub20 rfl W20
    have N20 := Fr.snoc X20 N1 fi3
    refine own_Go.of (S' := (T20.setTop (mkF m 123 #[.val (.ref it), .val (.ref ky), .val (.int (Int32.ofNat rg)), .val (.ref st), .val (.ref so), .val (.ref it), .val (.int (Int32.ofNat n)), .val (.int (Int32.ofNat i)), .val (.int (Int32.ofNat (g i)))] [(.int (Int32.ofNat (g i))), (.int (Int32.ofNat ((own_St (own_C2 (own_C1 (fun j => kf (g j)) n) rg) (fun j => kf (g j)) i) (kf (g i))))), (.ref so)]))) (fun t kt => ?_) ?_
    · show Steps p.tables e below (T20.setTop (mkF m 121 #[.val (.ref it), .val (.ref ky), .val (.int (Int32.ofNat rg)), .val (.ref st), .val (.ref so), .val (.ref it), .val (.int (Int32.ofNat n)), .val (.int (Int32.ofNat i)), .val (.int (Int32.ofNat (g i)))] [(.int (Int32.ofNat ((own_St (own_C2 (own_C1 (fun j => kf (g j)) n) rg) (fun j => kf (g j)) i) (kf (g i))))), (.ref so)])) _
      refine XS.iload X20.here hx rfl (own_hb hby d2_121) rfl ?_
      exact kt
    obtain ⟨cl27, Ar27, hin27, ub27⟩ := own_Ar.put (j := (Int32.ofNat ((own_St (own_C2 (own_C1 (fun j => kf (g j)) n) rg) (fun j => kf (g j)) i) (kf (g i))))) (k := ((own_St (own_C2 (own_C1 (fun j => kf (g j)) n) rg) (fun j => kf (g j)) i) (kf (g i)))) f23 ⟨rfl, hri⟩
    obtain ⟨T27, h27, X27, e27, W27, st27⟩ := stI X20 hx hZ e20 Ar27 (j := (Int32.ofNat ((own_St (own_C2 (own_C1 (fun j => kf (g j)) n) rg) (fun j => kf (g j)) i) (kf (g i))))) hin27 (g := (mkF m 123 #[.val (.ref it), .val (.ref ky), .val (.int (Int32.ofNat rg)), .val (.ref st), .val (.ref so), .val (.ref it), .val (.int (Int32.ofNat n)), .val (.int (Int32.ofNat i)), .val (.int (Int32.ofNat (g i)))] [(.int (Int32.ofNat (g i))), (.int (Int32.ofNat ((own_St (own_C2 (own_C1 (fun j => kf (g j)) n) rg) (fun j => kf (g j)) i) (kf (g i))))), (.ref so)])) rfl rfl (own_hb hby d2_123)
    refine own_Go.of (S' := (T27.setTop (mkF m 124 #[.val (.ref it), .val (.ref ky), .val (.int (Int32.ofNat rg)), .val (.ref st), .val (.ref so), .val (.ref it), .val (.int (Int32.ofNat n)), .val (.int (Int32.ofNat i)), .val (.int (Int32.ofNat (g i)))] []))) st27 ?_
    have f28 := f21.other W27 fi9
    have f29 := f22.other W27 fi10
    have f30 := f26.other W27 fi11
    have z31 := Nat.le_trans z24 (Keep.of_wr W27).1
    have kp32 := kp25.wr W27 (Or.inr szso)
    have f33 : own_Ar Z h27 so .int n (own_I (own_N (own_ns (own_So (own_C2 (own_C1 (fun j => kf (g j)) n) rg) (fun j => kf (g j)) g i) ((own_St (own_C2 (own_C1 (fun j => kf (g j)) n) rg) (fun j => kf (g j)) i) (kf (g i))) (g i)))) := by rw [← own_NI]; exact ub27 rfl W27
    have N27 := Fr.snoc X27 N20 fi7
    refine own_Go.of (S' := (T27.setTop (mkF m 94 #[.val (.ref it), .val (.ref ky), .val (.int (Int32.ofNat rg)), .val (.ref st), .val (.ref so), .val (.ref it), .val (.int (Int32.ofNat n)), .val (.int ((Int32.ofNat i) + (1 : Int32))), .val (.int (Int32.ofNat (g i)))] []))) (fun t kt => ?_) ?_
    · show Steps p.tables e below (T27.setTop (mkF m 124 #[.val (.ref it), .val (.ref ky), .val (.int (Int32.ofNat rg)), .val (.ref st), .val (.ref so), .val (.ref it), .val (.int (Int32.ofNat n)), .val (.int (Int32.ofNat i)), .val (.int (Int32.ofNat (g i)))] [])) _
      refine XS.iinc X27.here hx rfl (own_hb hby d2_124) rfl (l' := #[.val (.ref it), .val (.ref ky), .val (.int (Int32.ofNat rg)), .val (.ref st), .val (.ref so), .val (.ref it), .val (.int (Int32.ofNat n)), .val (.int ((Int32.ofNat i) + (1 : Int32))), .val (.int (Int32.ofNat (g i)))]) rfl ?_
      show Steps p.tables e below (T27.setTop (mkF m 127 #[.val (.ref it), .val (.ref ky), .val (.int (Int32.ofNat rg)), .val (.ref st), .val (.ref so), .val (.ref it), .val (.int (Int32.ofNat n)), .val (.int ((Int32.ofNat i) + (1 : Int32))), .val (.int (Int32.ofNat (g i)))] [])) _
      refine XS.goto X27.here hx rfl (pc0 := 127) (pc' := 94) rfl (own_hb hby d2_127) (by decide) (by decide) ?_
      exact kt
    refine own_Go.of (S' := (T27.setTop (mkF m 94 #[.val (.ref it), .val (.ref ky), .val (.int (Int32.ofNat rg)), .val (.ref st), .val (.ref so), .val (.ref it), .val (.int (Int32.ofNat n)), .val (.int (Int32.ofNat (i + 1))), .val (.int (Int32.ofNat (g i)))] []))) (fun t kt => ?_) ?_
    · show Steps p.tables e below (T27.setTop (mkF m 94 #[.val (.ref it), .val (.ref ky), .val (.int (Int32.ofNat rg)), .val (.ref st), .val (.ref so), .val (.ref it), .val (.int (Int32.ofNat n)), .val (.int ((Int32.ofNat i) + (1 : Int32))), .val (.int (Int32.ofNat (g i)))] [])) _
      rw [show Int32.ofNat i + (1 : Int32) = Int32.ofNat (i + 1) from own_addN i 1]
      exact kt
    exact ih (i + 1) (.val (.int (Int32.ofNat (g i)))) X27 e27 N27 z31 (by omega) (Or.inr ⟨_, rfl, rfl⟩) f28 f29 f30 f33 kp32
set_option maxRecDepth 65536 in
set_option maxHeartbeats 40000000 in
theorem loop2 {p : Program} {l : Launch} {e : Env} {s : State} {m : MethodId} {below : List Frame} {meth : Method} {c : Code} {Z : State} {a0 : Array Value} (hw : ∀ d ∈ tables_1, d.before a0 Z = true) (hx : p.tables.exec = Jvm.exec) (hZ : Z.Warmed39 s.vm) (hby : c.code = prog_7_method_2_code) (hml : c.maxLocals = 9) (hret : meth.sig.returnType = some (.array .int)) (hlk : meth.locks = false) (hown : s.vm.findClass "com/example/sagasu/sagasu/CountingSort" = some m.cls) (hnm : meth.name = "byKey") (it : Addr) (ky : Addr) (rg : Nat) (n : Nat) (g : Nat → Nat) (kf : Nat → Nat) (h0 : Heap) (n0 : Nat) (st : Addr) (i6 : Nat) (sl : Slot) (hn : n ≤ 4) (hrg : rg ≤ 7) (hg : ∀ j, j < n → g j < 4 ∧ kf (g j) < rg) (fi3 : n0 ≤ st) (szst : h0.size ≤ st) (fi5 : it ≠ st) (fi6 : ky ≠ st) (hsl : sl = .unset ∨ ∃ w, sl = .val w ∧ w.category = 1) :
    ∀ (k : Nat) (i : Nat) {T1 : State} {h1 : Heap} {locs : List Loc}, Stand p l e ({ frames := 0, cells := 2, slots := 12, locals := 0 } : Room) s m #[(.ref it), (.ref ky), (.int (Int32.ofNat rg))] below meth c T1 locs 1 8 → T1.heap = h1 → Fr n0 locs → n0 ≤ h1.size → (i + k = rg) → (own_Ar Z h1 it .int n (own_I (own_N g))) → (own_Ar Z h1 ky .int 4 (own_I (own_N kf))) → (own_Ar Z h1 st .int (rg + 1) (own_I (own_N (own_C2 (own_C1 (fun j => kf (g j)) n) i)))) → (Keep h0 h1 []) → 
    own_Go p e below (T1.setTop (mkF m 52 #[.val (.ref it), .val (.ref ky), .val (.int (Int32.ofNat rg)), .val (.ref st), .val (.int (Int32.ofNat i)), .val (.int (Int32.ofNat n)), .val (.int (Int32.ofNat i6)), sl, .unset] [])) (own_End s (Q_rm2 Z it ky rg n g kf h0 n0) ({ frames := 0, cells := 2, slots := 12, locals := 0 } : Room).cells ({ frames := 0, cells := 2, slots := 12, locals := 0 } : Room).slots) := by
  intro k
  induction k with
  | zero =>
    intro i T1 h1 locs X1 e1 N1 Z1 hik pr1 pr2 pr3 kp1
    refine own_Go.of (S' := (T1.setTop (mkF m 78 #[.val (.ref it), .val (.ref ky), .val (.int (Int32.ofNat rg)), .val (.ref st), .val (.int (Int32.ofNat i)), .val (.int (Int32.ofNat n)), .val (.int (Int32.ofNat i6)), sl, .unset] [(.ref it)]))) (fun t kt => ?_) ?_
    · show Steps p.tables e below (T1.setTop (mkF m 52 #[.val (.ref it), .val (.ref ky), .val (.int (Int32.ofNat rg)), .val (.ref st), .val (.int (Int32.ofNat i)), .val (.int (Int32.ofNat n)), .val (.int (Int32.ofNat i6)), sl, .unset] [])) _
      refine XS.iload X1.here hx rfl (own_hb hby d2_52) rfl ?_
      show Steps p.tables e below (T1.setTop (mkF m 54 #[.val (.ref it), .val (.ref ky), .val (.int (Int32.ofNat rg)), .val (.ref st), .val (.int (Int32.ofNat i)), .val (.int (Int32.ofNat n)), .val (.int (Int32.ofNat i6)), sl, .unset] [(.int (Int32.ofNat i))])) _
      refine XS.iloadN X1.here hx rfl (own_hb hby d2_54) rfl ?_
      show Steps p.tables e below (T1.setTop (mkF m 55 #[.val (.ref it), .val (.ref ky), .val (.int (Int32.ofNat rg)), .val (.ref st), .val (.int (Int32.ofNat i)), .val (.int (Int32.ofNat n)), .val (.int (Int32.ofNat i6)), sl, .unset] [(.int (Int32.ofNat rg)), (.int (Int32.ofNat i))])) _
      refine XS.icmpYes X1.here hx rfl (pc0 := 55) (pc' := 77) rfl (own_hb hby d2_55) rfl (flt (fun q => by have h2 := (own_ltN (by omega) (by omega)).mp q; omega)).2.1 (by decide) (by decide) ?_
      show Steps p.tables e below (T1.setTop (mkF m 77 #[.val (.ref it), .val (.ref ky), .val (.int (Int32.ofNat rg)), .val (.ref st), .val (.int (Int32.ofNat i)), .val (.int (Int32.ofNat n)), .val (.int (Int32.ofNat i6)), sl, .unset] [])) _
      refine XS.aloadN X1.here hx rfl (own_hb hby d2_77) rfl rfl ?_
      exact kt
    obtain ⟨cl34, Ar34, hln34⟩ := own_Ar.len pr1
    refine own_Go.of (S' := (T1.setTop (mkF m 79 #[.val (.ref it), .val (.ref ky), .val (.int (Int32.ofNat rg)), .val (.ref st), .val (.int (Int32.ofNat i)), .val (.int (Int32.ofNat n)), .val (.int (Int32.ofNat i6)), sl, .unset] [(.int (Int32.ofNat n))]))) (fun t kt => ?_) ?_
    · show Steps p.tables e below (T1.setTop (mkF m 78 #[.val (.ref it), .val (.ref ky), .val (.int (Int32.ofNat rg)), .val (.ref st), .val (.int (Int32.ofNat i)), .val (.int (Int32.ofNat n)), .val (.int (Int32.ofNat i6)), sl, .unset] [(.ref it)])) _
      refine X1.arraylength hx (by rw [e1]; exact Ar34.1) (State.isArrayOf_alike hZ.alike Ar34.2.1) (g := (mkF m 78 #[.val (.ref it), .val (.ref ky), .val (.int (Int32.ofNat rg)), .val (.ref st), .val (.int (Int32.ofNat i)), .val (.int (Int32.ofNat n)), .val (.int (Int32.ofNat i6)), sl, .unset] [(.ref it)])) rfl rfl (own_hb hby d2_78) _ ?_
      rw [hln34]
      exact kt
    obtain ⟨T35, h35, X35, e35, E35, A35, st35⟩ := own_newP X1 hx hZ (hw _ (List.mem_of_getElem? (i := 0) rfl)) e1 (g := (mkF m 79 #[.val (.ref it), .val (.ref ky), .val (.int (Int32.ofNat rg)), .val (.ref st), .val (.int (Int32.ofNat i)), .val (.int (Int32.ofNat n)), .val (.int (Int32.ofNat i6)), sl, .unset] [(.int (Int32.ofNat n))])) rfl (own_hb hby d2_79) rfl (n := n) (cap := 4) rfl (by omega) (by decide) (by decide) (by decide)
    obtain ⟨b35, g35⟩ : ∃ z, z = h1.size := ⟨_, rfl⟩
    rw [← g35] at A35 st35
    have gx35 : n0 ≤ b35 := Nat.le_trans Z1 (Nat.le_of_eq g35.symm)
    have ne36 : it ≠ b35 := Nat.ne_of_lt (Nat.lt_of_lt_of_le pr1.lt (Nat.le_of_eq g35.symm))
    have ne37 : ky ≠ b35 := Nat.ne_of_lt (Nat.lt_of_lt_of_le pr2.lt (Nat.le_of_eq g35.symm))
    have ne38 : st ≠ b35 := Nat.ne_of_lt (Nat.lt_of_lt_of_le pr3.lt (Nat.le_of_eq g35.symm))
    have sz35 : h0.size ≤ b35 := Nat.le_trans kp1.1 (Nat.le_of_eq g35.symm)
    refine own_Go.of (S' := (T35.setTop (mkF m 81 #[.val (.ref it), .val (.ref ky), .val (.int (Int32.ofNat rg)), .val (.ref st), .val (.int (Int32.ofNat i)), .val (.int (Int32.ofNat n)), .val (.int (Int32.ofNat i6)), sl, .unset] [(.ref b35)]))) st35 ?_
    have f39 := pr1.ext E35
    have f40 := pr2.ext E35
    have f41 := pr3.ext E35
    have z42 := Nat.le_trans Z1 E35.1
    have kp43 := kp1.ext E35
    have f44 : own_Ar Z h35 b35 .int n (own_I (own_N (fun _ => 0))) := A35
    refine own_Go.of (S' := (T35.setTop (mkF m 88 #[.val (.ref it), .val (.ref ky), .val (.int (Int32.ofNat rg)), .val (.ref st), .val (.ref b35), .val (.ref it), .val (.int (Int32.ofNat i6)), sl, .unset] [(.ref it)]))) (fun t kt => ?_) ?_
    · show Steps p.tables e below (T35.setTop (mkF m 81 #[.val (.ref it), .val (.ref ky), .val (.int (Int32.ofNat rg)), .val (.ref st), .val (.int (Int32.ofNat i)), .val (.int (Int32.ofNat n)), .val (.int (Int32.ofNat i6)), sl, .unset] [(.ref b35)])) _
      refine XS.astore X35.here hx rfl (own_hb hby d2_81) rfl rfl (l' := #[.val (.ref it), .val (.ref ky), .val (.int (Int32.ofNat rg)), .val (.ref st), .val (.ref b35), .val (.int (Int32.ofNat n)), .val (.int (Int32.ofNat i6)), sl, .unset]) rfl ?_
      show Steps p.tables e below (T35.setTop (mkF m 83 #[.val (.ref it), .val (.ref ky), .val (.int (Int32.ofNat rg)), .val (.ref st), .val (.ref b35), .val (.int (Int32.ofNat n)), .val (.int (Int32.ofNat i6)), sl, .unset] [])) _
      refine XS.aloadN X35.here hx rfl (own_hb hby d2_83) rfl rfl ?_
      show Steps p.tables e below (T35.setTop (mkF m 84 #[.val (.ref it), .val (.ref ky), .val (.int (Int32.ofNat rg)), .val (.ref st), .val (.ref b35), .val (.int (Int32.ofNat n)), .val (.int (Int32.ofNat i6)), sl, .unset] [(.ref it)])) _
      refine XS.astore X35.here hx rfl (own_hb hby d2_84) rfl rfl (l' := #[.val (.ref it), .val (.ref ky), .val (.int (Int32.ofNat rg)), .val (.ref st), .val (.ref b35), .val (.ref it), .val (.int (Int32.ofNat i6)), sl, .unset]) rfl ?_
      show Steps p.tables e below (T35.setTop (mkF m 86 #[.val (.ref it), .val (.ref ky), .val (.int (Int32.ofNat rg)), .val (.ref st), .val (.ref b35), .val (.ref it), .val (.int (Int32.ofNat i6)), sl, .unset] [])) _
      refine XS.aload X35.here hx rfl (own_hb hby d2_86) rfl rfl ?_
      exact kt
    obtain ⟨cl45, Ar45, hln45⟩ := own_Ar.len f39
    refine own_Go.of (S' := (T35.setTop (mkF m 94 #[.val (.ref it), .val (.ref ky), .val (.int (Int32.ofNat rg)), .val (.ref st), .val (.ref b35), .val (.ref it), .val (.int (Int32.ofNat n)), .val (.int (0 : Int32)), .unset] []))) (fun t kt => ?_) ?_
    · show Steps p.tables e below (T35.setTop (mkF m 88 #[.val (.ref it), .val (.ref ky), .val (.int (Int32.ofNat rg)), .val (.ref st), .val (.ref b35), .val (.ref it), .val (.int (Int32.ofNat i6)), sl, .unset] [(.ref it)])) _
      refine X35.arraylength hx (by rw [e35]; exact Ar45.1) (State.isArrayOf_alike hZ.alike Ar45.2.1) (g := (mkF m 88 #[.val (.ref it), .val (.ref ky), .val (.int (Int32.ofNat rg)), .val (.ref st), .val (.ref b35), .val (.ref it), .val (.int (Int32.ofNat i6)), sl, .unset] [(.ref it)])) rfl rfl (own_hb hby d2_88) _ ?_
      rw [hln45]
      show Steps p.tables e below (T35.setTop (mkF m 89 #[.val (.ref it), .val (.ref ky), .val (.int (Int32.ofNat rg)), .val (.ref st), .val (.ref b35), .val (.ref it), .val (.int (Int32.ofNat i6)), sl, .unset] [(.int (Int32.ofNat n))])) _
      refine XS.istore X35.here hx rfl (own_hb hby d2_89) rfl (l' := #[.val (.ref it), .val (.ref ky), .val (.int (Int32.ofNat rg)), .val (.ref st), .val (.ref b35), .val (.ref it), .val (.int (Int32.ofNat n)), sl, .unset]) rfl ?_
      show Steps p.tables e below (T35.setTop (mkF m 91 #[.val (.ref it), .val (.ref ky), .val (.int (Int32.ofNat rg)), .val (.ref st), .val (.ref b35), .val (.ref it), .val (.int (Int32.ofNat n)), sl, .unset] [])) _
      refine XS.iconst X35.here hx rfl (own_hb hby d2_91) ?_
      show Steps p.tables e below (T35.setTop (mkF m 92 #[.val (.ref it), .val (.ref ky), .val (.int (Int32.ofNat rg)), .val (.ref st), .val (.ref b35), .val (.ref it), .val (.int (Int32.ofNat n)), sl, .unset] [(.int (0 : Int32))])) _
      refine XS.istore X35.here hx rfl (own_hb hby d2_92) rfl (l' := #[.val (.ref it), .val (.ref ky), .val (.int (Int32.ofNat rg)), .val (.ref st), .val (.ref b35), .val (.ref it), .val (.int (Int32.ofNat n)), .val (.int (0 : Int32)), .unset]) (own_st1 (by rfl) hsl rfl) ?_
      exact kt
    exact loop3 hw hx hZ hby hml hret hlk hown hnm it ky rg n g kf h0 n0 st b35 hn hrg hg fi3 szst fi5 fi6 gx35 sz35 ne36 ne37 ne38 n 0 .unset (own_mono X35 (by decide) (by decide)) e35 N1 z42 (by omega) (Or.inl rfl) f39 f40 (by have q := f41; rw [show i = rg by omega] at q; exact q) f44 kp43
  | succ k ih =>
    intro i T1 h1 locs X1 e1 N1 Z1 hik pr1 pr2 pr3 kp1
    refine own_Go.of (S' := (T1.setTop (mkF m 64 #[.val (.ref it), .val (.ref ky), .val (.int (Int32.ofNat rg)), .val (.ref st), .val (.int (Int32.ofNat i)), .val (.int (Int32.ofNat n)), .val (.int (Int32.ofNat i6)), sl, .unset] [(.int (Int32.ofNat (i + 1))), (.ref st), (.int (Int32.ofNat (i + 1))), (.ref st)]))) (fun t kt => ?_) ?_
    · show Steps p.tables e below (T1.setTop (mkF m 52 #[.val (.ref it), .val (.ref ky), .val (.int (Int32.ofNat rg)), .val (.ref st), .val (.int (Int32.ofNat i)), .val (.int (Int32.ofNat n)), .val (.int (Int32.ofNat i6)), sl, .unset] [])) _
      refine XS.iload X1.here hx rfl (own_hb hby d2_52) rfl ?_
      show Steps p.tables e below (T1.setTop (mkF m 54 #[.val (.ref it), .val (.ref ky), .val (.int (Int32.ofNat rg)), .val (.ref st), .val (.int (Int32.ofNat i)), .val (.int (Int32.ofNat n)), .val (.int (Int32.ofNat i6)), sl, .unset] [(.int (Int32.ofNat i))])) _
      refine XS.iloadN X1.here hx rfl (own_hb hby d2_54) rfl ?_
      show Steps p.tables e below (T1.setTop (mkF m 55 #[.val (.ref it), .val (.ref ky), .val (.int (Int32.ofNat rg)), .val (.ref st), .val (.int (Int32.ofNat i)), .val (.int (Int32.ofNat n)), .val (.int (Int32.ofNat i6)), sl, .unset] [(.int (Int32.ofNat rg)), (.int (Int32.ofNat i))])) _
      refine XS.icmpNo X1.here hx rfl (own_hb hby d2_55) rfl (tlt ((own_ltN (by omega) (by omega)).mpr (by omega))).2.1 ?_
      show Steps p.tables e below (T1.setTop (mkF m 58 #[.val (.ref it), .val (.ref ky), .val (.int (Int32.ofNat rg)), .val (.ref st), .val (.int (Int32.ofNat i)), .val (.int (Int32.ofNat n)), .val (.int (Int32.ofNat i6)), sl, .unset] [])) _
      refine XS.aloadN X1.here hx rfl (own_hb hby d2_58) rfl rfl ?_
      show Steps p.tables e below (T1.setTop (mkF m 59 #[.val (.ref it), .val (.ref ky), .val (.int (Int32.ofNat rg)), .val (.ref st), .val (.int (Int32.ofNat i)), .val (.int (Int32.ofNat n)), .val (.int (Int32.ofNat i6)), sl, .unset] [(.ref st)])) _
      refine XS.iload X1.here hx rfl (own_hb hby d2_59) rfl ?_
      show Steps p.tables e below (T1.setTop (mkF m 61 #[.val (.ref it), .val (.ref ky), .val (.int (Int32.ofNat rg)), .val (.ref st), .val (.int (Int32.ofNat i)), .val (.int (Int32.ofNat n)), .val (.int (Int32.ofNat i6)), sl, .unset] [(.int (Int32.ofNat i)), (.ref st)])) _
      refine XS.iconst X1.here hx rfl (own_hb hby d2_61) ?_
      show Steps p.tables e below (T1.setTop (mkF m 62 #[.val (.ref it), .val (.ref ky), .val (.int (Int32.ofNat rg)), .val (.ref st), .val (.int (Int32.ofNat i)), .val (.int (Int32.ofNat n)), .val (.int (Int32.ofNat i6)), sl, .unset] [(.int (1 : Int32)), (.int (Int32.ofNat i)), (.ref st)])) _
      refine XS.iadd X1.here hx rfl (own_hb hby d2_62) rfl ?_
      show Steps p.tables e below (T1.setTop (mkF m 63 #[.val (.ref it), .val (.ref ky), .val (.int (Int32.ofNat rg)), .val (.ref st), .val (.int (Int32.ofNat i)), .val (.int (Int32.ofNat n)), .val (.int (Int32.ofNat i6)), sl, .unset] [(.int ((Int32.ofNat i) + (1 : Int32))), (.ref st)])) _
      rw [show Int32.ofNat i + (1 : Int32) = Int32.ofNat (i + 1) from own_addN i 1]
      show Steps p.tables e below (T1.setTop (mkF m 63 #[.val (.ref it), .val (.ref ky), .val (.int (Int32.ofNat rg)), .val (.ref st), .val (.int (Int32.ofNat i)), .val (.int (Int32.ofNat n)), .val (.int (Int32.ofNat i6)), sl, .unset] [(.int (Int32.ofNat (i + 1))), (.ref st)])) _
      refine own_dup2 X1.here hx rfl (own_hb hby d2_63) rfl rfl rfl ?_
      exact kt
    obtain ⟨cl46, Ar46, hin46, hat46⟩ := own_Ar.get (j := (Int32.ofNat (i + 1))) (k := (i + 1)) pr3 ⟨rfl, by omega⟩
    refine own_Go.of (S' := (T1.setTop (mkF m 68 #[.val (.ref it), .val (.ref ky), .val (.int (Int32.ofNat rg)), .val (.ref st), .val (.int (Int32.ofNat i)), .val (.int (Int32.ofNat n)), .val (.int (Int32.ofNat i6)), sl, .unset] [(.int (Int32.ofNat i)), (.ref st), (.int (Int32.ofNat ((own_C2 (own_C1 (fun j => kf (g j)) n) i) (i + 1)))), (.int (Int32.ofNat (i + 1))), (.ref st)]))) (fun t kt => ?_) ?_
    · show Steps p.tables e below (T1.setTop (mkF m 64 #[.val (.ref it), .val (.ref ky), .val (.int (Int32.ofNat rg)), .val (.ref st), .val (.int (Int32.ofNat i)), .val (.int (Int32.ofNat n)), .val (.int (Int32.ofNat i6)), sl, .unset] [(.int (Int32.ofNat (i + 1))), (.ref st), (.int (Int32.ofNat (i + 1))), (.ref st)])) _
      refine X1.iaload hx (j := (Int32.ofNat (i + 1))) (v := (.int (Int32.ofNat ((own_C2 (own_C1 (fun j => kf (g j)) n) i) (i + 1))))) (by rw [e1]; exact Ar46.1) (State.isArrayOf_alike hZ.alike Ar46.2.1) Ar46.2.2 hin46 hat46 (g := (mkF m 64 #[.val (.ref it), .val (.ref ky), .val (.int (Int32.ofNat rg)), .val (.ref st), .val (.int (Int32.ofNat i)), .val (.int (Int32.ofNat n)), .val (.int (Int32.ofNat i6)), sl, .unset] [(.int (Int32.ofNat (i + 1))), (.ref st), (.int (Int32.ofNat (i + 1))), (.ref st)])) rfl rfl (own_hb hby d2_64) _ ?_
      show Steps p.tables e below (T1.setTop (mkF m 65 #[.val (.ref it), .val (.ref ky), .val (.int (Int32.ofNat rg)), .val (.ref st), .val (.int (Int32.ofNat i)), .val (.int (Int32.ofNat n)), .val (.int (Int32.ofNat i6)), sl, .unset] [(.int (Int32.ofNat ((own_C2 (own_C1 (fun j => kf (g j)) n) i) (i + 1)))), (.int (Int32.ofNat (i + 1))), (.ref st)])) _
      refine XS.aloadN X1.here hx rfl (own_hb hby d2_65) rfl rfl ?_
      show Steps p.tables e below (T1.setTop (mkF m 66 #[.val (.ref it), .val (.ref ky), .val (.int (Int32.ofNat rg)), .val (.ref st), .val (.int (Int32.ofNat i)), .val (.int (Int32.ofNat n)), .val (.int (Int32.ofNat i6)), sl, .unset] [(.ref st), (.int (Int32.ofNat ((own_C2 (own_C1 (fun j => kf (g j)) n) i) (i + 1)))), (.int (Int32.ofNat (i + 1))), (.ref st)])) _
      refine XS.iload X1.here hx rfl (own_hb hby d2_66) rfl ?_
      exact kt
    obtain ⟨cl47, Ar47, hin47, hat47⟩ := own_Ar.get (j := (Int32.ofNat i)) (k := i) pr3 ⟨rfl, by omega⟩
    refine own_Go.of (S' := (T1.setTop (mkF m 70 #[.val (.ref it), .val (.ref ky), .val (.int (Int32.ofNat rg)), .val (.ref st), .val (.int (Int32.ofNat i)), .val (.int (Int32.ofNat n)), .val (.int (Int32.ofNat i6)), sl, .unset] [(.int (Int32.ofNat ((own_C2 (own_C1 (fun j => kf (g j)) n) i) (i + 1) + (own_C2 (own_C1 (fun j => kf (g j)) n) i) i))), (.int (Int32.ofNat (i + 1))), (.ref st)]))) (fun t kt => ?_) ?_
    · show Steps p.tables e below (T1.setTop (mkF m 68 #[.val (.ref it), .val (.ref ky), .val (.int (Int32.ofNat rg)), .val (.ref st), .val (.int (Int32.ofNat i)), .val (.int (Int32.ofNat n)), .val (.int (Int32.ofNat i6)), sl, .unset] [(.int (Int32.ofNat i)), (.ref st), (.int (Int32.ofNat ((own_C2 (own_C1 (fun j => kf (g j)) n) i) (i + 1)))), (.int (Int32.ofNat (i + 1))), (.ref st)])) _
      refine X1.iaload hx (j := (Int32.ofNat i)) (v := (.int (Int32.ofNat ((own_C2 (own_C1 (fun j => kf (g j)) n) i) i)))) (by rw [e1]; exact Ar47.1) (State.isArrayOf_alike hZ.alike Ar47.2.1) Ar47.2.2 hin47 hat47 (g := (mkF m 68 #[.val (.ref it), .val (.ref ky), .val (.int (Int32.ofNat rg)), .val (.ref st), .val (.int (Int32.ofNat i)), .val (.int (Int32.ofNat n)), .val (.int (Int32.ofNat i6)), sl, .unset] [(.int (Int32.ofNat i)), (.ref st), (.int (Int32.ofNat ((own_C2 (own_C1 (fun j => kf (g j)) n) i) (i + 1)))), (.int (Int32.ofNat (i + 1))), (.ref st)])) rfl rfl (own_hb hby d2_68) _ ?_
      show Steps p.tables e below (T1.setTop (mkF m 69 #[.val (.ref it), .val (.ref ky), .val (.int (Int32.ofNat rg)), .val (.ref st), .val (.int (Int32.ofNat i)), .val (.int (Int32.ofNat n)), .val (.int (Int32.ofNat i6)), sl, .unset] [(.int (Int32.ofNat ((own_C2 (own_C1 (fun j => kf (g j)) n) i) i))), (.int (Int32.ofNat ((own_C2 (own_C1 (fun j => kf (g j)) n) i) (i + 1)))), (.int (Int32.ofNat (i + 1))), (.ref st)])) _
      refine XS.iadd X1.here hx rfl (own_hb hby d2_69) rfl ?_
      show Steps p.tables e below (T1.setTop (mkF m 70 #[.val (.ref it), .val (.ref ky), .val (.int (Int32.ofNat rg)), .val (.ref st), .val (.int (Int32.ofNat i)), .val (.int (Int32.ofNat n)), .val (.int (Int32.ofNat i6)), sl, .unset] [(.int ((Int32.ofNat ((own_C2 (own_C1 (fun j => kf (g j)) n) i) (i + 1))) + (Int32.ofNat ((own_C2 (own_C1 (fun j => kf (g j)) n) i) i)))), (.int (Int32.ofNat (i + 1))), (.ref st)])) _
      rw [own_addN ((own_C2 (own_C1 (fun j => kf (g j)) n) i) (i + 1)) ((own_C2 (own_C1 (fun j => kf (g j)) n) i) i)]
      exact kt
    obtain ⟨cl48, Ar48, hin48, ub48⟩ := own_Ar.put (j := (Int32.ofNat (i + 1))) (k := (i + 1)) pr3 ⟨rfl, by omega⟩
    obtain ⟨T48, h48, X48, e48, W48, st48⟩ := stI X1 hx hZ e1 Ar48 (j := (Int32.ofNat (i + 1))) hin48 (g := (mkF m 70 #[.val (.ref it), .val (.ref ky), .val (.int (Int32.ofNat rg)), .val (.ref st), .val (.int (Int32.ofNat i)), .val (.int (Int32.ofNat n)), .val (.int (Int32.ofNat i6)), sl, .unset] [(.int (Int32.ofNat ((own_C2 (own_C1 (fun j => kf (g j)) n) i) (i + 1) + (own_C2 (own_C1 (fun j => kf (g j)) n) i) i))), (.int (Int32.ofNat (i + 1))), (.ref st)])) rfl rfl (own_hb hby d2_70)
    refine own_Go.of (S' := (T48.setTop (mkF m 71 #[.val (.ref it), .val (.ref ky), .val (.int (Int32.ofNat rg)), .val (.ref st), .val (.int (Int32.ofNat i)), .val (.int (Int32.ofNat n)), .val (.int (Int32.ofNat i6)), sl, .unset] []))) st48 ?_
    have f49 := pr1.other W48 fi5
    have f50 := pr2.other W48 fi6
    have z51 := Nat.le_trans Z1 (Keep.of_wr W48).1
    have kp52 := kp1.wr W48 (Or.inr szst)
    have f53 : own_Ar Z h48 st .int (rg + 1) (own_I (own_N (own_ns (own_C2 (own_C1 (fun j => kf (g j)) n) i) (i + 1) ((own_C2 (own_C1 (fun j => kf (g j)) n) i) (i + 1) + (own_C2 (own_C1 (fun j => kf (g j)) n) i) i)))) := by rw [← own_NI]; exact ub48 rfl W48
    have N48 := Fr.snoc X48 N1 fi3
    refine own_Go.of (S' := (T48.setTop (mkF m 52 #[.val (.ref it), .val (.ref ky), .val (.int (Int32.ofNat rg)), .val (.ref st), .val (.int ((Int32.ofNat i) + (1 : Int32))), .val (.int (Int32.ofNat n)), .val (.int (Int32.ofNat i6)), sl, .unset] []))) (fun t kt => ?_) ?_
    · show Steps p.tables e below (T48.setTop (mkF m 71 #[.val (.ref it), .val (.ref ky), .val (.int (Int32.ofNat rg)), .val (.ref st), .val (.int (Int32.ofNat i)), .val (.int (Int32.ofNat n)), .val (.int (Int32.ofNat i6)), sl, .unset] [])) _
      refine XS.iinc X48.here hx rfl (own_hb hby d2_71) rfl (l' := #[.val (.ref it), .val (.ref ky), .val (.int (Int32.ofNat rg)), .val (.ref st), .val (.int ((Int32.ofNat i) + (1 : Int32))), .val (.int (Int32.ofNat n)), .val (.int (Int32.ofNat i6)), sl, .unset]) rfl ?_
      show Steps p.tables e below (T48.setTop (mkF m 74 #[.val (.ref it), .val (.ref ky), .val (.int (Int32.ofNat rg)), .val (.ref st), .val (.int ((Int32.ofNat i) + (1 : Int32))), .val (.int (Int32.ofNat n)), .val (.int (Int32.ofNat i6)), sl, .unset] [])) _
      refine XS.goto X48.here hx rfl (pc0 := 74) (pc' := 52) rfl (own_hb hby d2_74) (by decide) (by decide) ?_
      exact kt
    refine own_Go.of (S' := (T48.setTop (mkF m 52 #[.val (.ref it), .val (.ref ky), .val (.int (Int32.ofNat rg)), .val (.ref st), .val (.int (Int32.ofNat (i + 1))), .val (.int (Int32.ofNat n)), .val (.int (Int32.ofNat i6)), sl, .unset] []))) (fun t kt => ?_) ?_
    · show Steps p.tables e below (T48.setTop (mkF m 52 #[.val (.ref it), .val (.ref ky), .val (.int (Int32.ofNat rg)), .val (.ref st), .val (.int ((Int32.ofNat i) + (1 : Int32))), .val (.int (Int32.ofNat n)), .val (.int (Int32.ofNat i6)), sl, .unset] [])) _
      rw [show Int32.ofNat i + (1 : Int32) = Int32.ofNat (i + 1) from own_addN i 1]
      exact kt
    exact ih (i + 1) X48 e48 N48 z51 (by omega) f49 f50 f53 kp52
set_option maxRecDepth 65536 in
set_option maxHeartbeats 40000000 in
theorem loop1 {p : Program} {l : Launch} {e : Env} {s : State} {m : MethodId} {below : List Frame} {meth : Method} {c : Code} {Z : State} {a0 : Array Value} (hw : ∀ d ∈ tables_1, d.before a0 Z = true) (hx : p.tables.exec = Jvm.exec) (hZ : Z.Warmed39 s.vm) (hby : c.code = prog_7_method_2_code) (hml : c.maxLocals = 9) (hret : meth.sig.returnType = some (.array .int)) (hlk : meth.locks = false) (hown : s.vm.findClass "com/example/sagasu/sagasu/CountingSort" = some m.cls) (hnm : meth.name = "byKey") (it : Addr) (ky : Addr) (rg : Nat) (n : Nat) (g : Nat → Nat) (kf : Nat → Nat) (h0 : Heap) (n0 : Nat) (st : Addr) (hn : n ≤ 4) (hrg : rg ≤ 7) (hg : ∀ j, j < n → g j < 4 ∧ kf (g j) < rg) (fi3 : n0 ≤ st) (szst : h0.size ≤ st) (fi5 : it ≠ st) (fi6 : ky ≠ st) :
    ∀ (k : Nat) (i : Nat) (sl : Slot) {T1 : State} {h1 : Heap} {locs : List Loc}, Stand p l e ({ frames := 0, cells := 2, slots := 12, locals := 0 } : Room) s m #[(.ref it), (.ref ky), (.int (Int32.ofNat rg))] below meth c T1 locs 1 8 → T1.heap = h1 → Fr n0 locs → n0 ≤ h1.size → (i + k = n) → (sl = .unset ∨ ∃ w, sl = .val w ∧ w.category = 1) → (own_Ar Z h1 it .int n (own_I (own_N g))) → (own_Ar Z h1 ky .int 4 (own_I (own_N kf))) → (own_Ar Z h1 st .int (rg + 1) (own_I (own_N (own_C1 (fun j => kf (g j)) i)))) → (Keep h0 h1 []) → 
    own_Go p e below (T1.setTop (mkF m 17 #[.val (.ref it), .val (.ref ky), .val (.int (Int32.ofNat rg)), .val (.ref st), .val (.ref it), .val (.int (Int32.ofNat n)), .val (.int (Int32.ofNat i)), sl, .unset] [])) (own_End s (Q_rm2 Z it ky rg n g kf h0 n0) ({ frames := 0, cells := 2, slots := 12, locals := 0 } : Room).cells ({ frames := 0, cells := 2, slots := 12, locals := 0 } : Room).slots) := by
  intro k
  induction k with
  | zero =>
    intro i sl T1 h1 locs X1 e1 N1 Z1 hik hsl pr2 pr3 pr4 kp1
    refine own_Go.of (S' := (T1.setTop (mkF m 52 #[.val (.ref it), .val (.ref ky), .val (.int (Int32.ofNat rg)), .val (.ref st), .val (.int (0 : Int32)), .val (.int (Int32.ofNat n)), .val (.int (Int32.ofNat i)), sl, .unset] []))) (fun t kt => ?_) ?_
    · show Steps p.tables e below (T1.setTop (mkF m 17 #[.val (.ref it), .val (.ref ky), .val (.int (Int32.ofNat rg)), .val (.ref st), .val (.ref it), .val (.int (Int32.ofNat n)), .val (.int (Int32.ofNat i)), sl, .unset] [])) _
      refine XS.iload X1.here hx rfl (own_hb hby d2_17) rfl ?_
      show Steps p.tables e below (T1.setTop (mkF m 19 #[.val (.ref it), .val (.ref ky), .val (.int (Int32.ofNat rg)), .val (.ref st), .val (.ref it), .val (.int (Int32.ofNat n)), .val (.int (Int32.ofNat i)), sl, .unset] [(.int (Int32.ofNat i))])) _
      refine XS.iload X1.here hx rfl (own_hb hby d2_19) rfl ?_
      show Steps p.tables e below (T1.setTop (mkF m 21 #[.val (.ref it), .val (.ref ky), .val (.int (Int32.ofNat rg)), .val (.ref st), .val (.ref it), .val (.int (Int32.ofNat n)), .val (.int (Int32.ofNat i)), sl, .unset] [(.int (Int32.ofNat n)), (.int (Int32.ofNat i))])) _
      refine XS.icmpYes X1.here hx rfl (pc0 := 21) (pc' := 49) rfl (own_hb hby d2_21) rfl (flt (fun q => by have h2 := (own_ltN (by omega) (by omega)).mp q; omega)).2.1 (by decide) (by decide) ?_
      show Steps p.tables e below (T1.setTop (mkF m 49 #[.val (.ref it), .val (.ref ky), .val (.int (Int32.ofNat rg)), .val (.ref st), .val (.ref it), .val (.int (Int32.ofNat n)), .val (.int (Int32.ofNat i)), sl, .unset] [])) _
      refine XS.iconst X1.here hx rfl (own_hb hby d2_49) ?_
      show Steps p.tables e below (T1.setTop (mkF m 50 #[.val (.ref it), .val (.ref ky), .val (.int (Int32.ofNat rg)), .val (.ref st), .val (.ref it), .val (.int (Int32.ofNat n)), .val (.int (Int32.ofNat i)), sl, .unset] [(.int (0 : Int32))])) _
      refine XS.istore X1.here hx rfl (own_hb hby d2_50) rfl (l' := #[.val (.ref it), .val (.ref ky), .val (.int (Int32.ofNat rg)), .val (.ref st), .val (.int (0 : Int32)), .val (.int (Int32.ofNat n)), .val (.int (Int32.ofNat i)), sl, .unset]) rfl ?_
      exact kt
    exact loop2 hw hx hZ hby hml hret hlk hown hnm it ky rg n g kf h0 n0 st i sl hn hrg hg fi3 szst fi5 fi6 hsl rg 0 (own_mono X1 (by decide) (by decide)) e1 N1 Z1 (by omega) pr2 pr3 (by have q := pr4; rw [show i = n by omega] at q; exact q) kp1
  | succ k ih =>
    intro i sl T1 h1 locs X1 e1 N1 Z1 hik hsl pr2 pr3 pr4 kp1
    obtain ⟨hg1, hg2⟩ := hg i (by omega)
    refine own_Go.of (S' := (T1.setTop (mkF m 28 #[.val (.ref it), .val (.ref ky), .val (.int (Int32.ofNat rg)), .val (.ref st), .val (.ref it), .val (.int (Int32.ofNat n)), .val (.int (Int32.ofNat i)), sl, .unset] [(.int (Int32.ofNat i)), (.ref it)]))) (fun t kt => ?_) ?_
    · show Steps p.tables e below (T1.setTop (mkF m 17 #[.val (.ref it), .val (.ref ky), .val (.int (Int32.ofNat rg)), .val (.ref st), .val (.ref it), .val (.int (Int32.ofNat n)), .val (.int (Int32.ofNat i)), sl, .unset] [])) _
      refine XS.iload X1.here hx rfl (own_hb hby d2_17) rfl ?_
      show Steps p.tables e below (T1.setTop (mkF m 19 #[.val (.ref it), .val (.ref ky), .val (.int (Int32.ofNat rg)), .val (.ref st), .val (.ref it), .val (.int (Int32.ofNat n)), .val (.int (Int32.ofNat i)), sl, .unset] [(.int (Int32.ofNat i))])) _
      refine XS.iload X1.here hx rfl (own_hb hby d2_19) rfl ?_
      show Steps p.tables e below (T1.setTop (mkF m 21 #[.val (.ref it), .val (.ref ky), .val (.int (Int32.ofNat rg)), .val (.ref st), .val (.ref it), .val (.int (Int32.ofNat n)), .val (.int (Int32.ofNat i)), sl, .unset] [(.int (Int32.ofNat n)), (.int (Int32.ofNat i))])) _
      refine XS.icmpNo X1.here hx rfl (own_hb hby d2_21) rfl (tlt ((own_ltN (by omega) (by omega)).mpr (by omega))).2.1 ?_
      show Steps p.tables e below (T1.setTop (mkF m 24 #[.val (.ref it), .val (.ref ky), .val (.int (Int32.ofNat rg)), .val (.ref st), .val (.ref it), .val (.int (Int32.ofNat n)), .val (.int (Int32.ofNat i)), sl, .unset] [])) _
      refine XS.aload X1.here hx rfl (own_hb hby d2_24) rfl rfl ?_
      show Steps p.tables e below (T1.setTop (mkF m 26 #[.val (.ref it), .val (.ref ky), .val (.int (Int32.ofNat rg)), .val (.ref st), .val (.ref it), .val (.int (Int32.ofNat n)), .val (.int (Int32.ofNat i)), sl, .unset] [(.ref it)])) _
      refine XS.iload X1.here hx rfl (own_hb hby d2_26) rfl ?_
      exact kt
    obtain ⟨cl54, Ar54, hin54, hat54⟩ := own_Ar.get (j := (Int32.ofNat i)) (k := i) pr2 ⟨rfl, by omega⟩
    refine own_Go.of (S' := (T1.setTop (mkF m 35 #[.val (.ref it), .val (.ref ky), .val (.int (Int32.ofNat rg)), .val (.ref st), .val (.ref it), .val (.int (Int32.ofNat n)), .val (.int (Int32.ofNat i)), .val (.int (Int32.ofNat (g i))), .unset] [(.int (Int32.ofNat (g i))), (.ref ky), (.ref st)]))) (fun t kt => ?_) ?_
    · show Steps p.tables e below (T1.setTop (mkF m 28 #[.val (.ref it), .val (.ref ky), .val (.int (Int32.ofNat rg)), .val (.ref st), .val (.ref it), .val (.int (Int32.ofNat n)), .val (.int (Int32.ofNat i)), sl, .unset] [(.int (Int32.ofNat i)), (.ref it)])) _
      refine X1.iaload hx (j := (Int32.ofNat i)) (v := (.int (Int32.ofNat (g i)))) (by rw [e1]; exact Ar54.1) (State.isArrayOf_alike hZ.alike Ar54.2.1) Ar54.2.2 hin54 hat54 (g := (mkF m 28 #[.val (.ref it), .val (.ref ky), .val (.int (Int32.ofNat rg)), .val (.ref st), .val (.ref it), .val (.int (Int32.ofNat n)), .val (.int (Int32.ofNat i)), sl, .unset] [(.int (Int32.ofNat i)), (.ref it)])) rfl rfl (own_hb hby d2_28) _ ?_
      show Steps p.tables e below (T1.setTop (mkF m 29 #[.val (.ref it), .val (.ref ky), .val (.int (Int32.ofNat rg)), .val (.ref st), .val (.ref it), .val (.int (Int32.ofNat n)), .val (.int (Int32.ofNat i)), sl, .unset] [(.int (Int32.ofNat (g i)))])) _
      refine XS.istore X1.here hx rfl (own_hb hby d2_29) rfl (l' := #[.val (.ref it), .val (.ref ky), .val (.int (Int32.ofNat rg)), .val (.ref st), .val (.ref it), .val (.int (Int32.ofNat n)), .val (.int (Int32.ofNat i)), .val (.int (Int32.ofNat (g i))), .unset]) (own_st1 (by rfl) hsl rfl) ?_
      show Steps p.tables e below (T1.setTop (mkF m 31 #[.val (.ref it), .val (.ref ky), .val (.int (Int32.ofNat rg)), .val (.ref st), .val (.ref it), .val (.int (Int32.ofNat n)), .val (.int (Int32.ofNat i)), .val (.int (Int32.ofNat (g i))), .unset] [])) _
      refine XS.aloadN X1.here hx rfl (own_hb hby d2_31) rfl rfl ?_
      show Steps p.tables e below (T1.setTop (mkF m 32 #[.val (.ref it), .val (.ref ky), .val (.int (Int32.ofNat rg)), .val (.ref st), .val (.ref it), .val (.int (Int32.ofNat n)), .val (.int (Int32.ofNat i)), .val (.int (Int32.ofNat (g i))), .unset] [(.ref st)])) _
      refine XS.aloadN X1.here hx rfl (own_hb hby d2_32) rfl rfl ?_
      show Steps p.tables e below (T1.setTop (mkF m 33 #[.val (.ref it), .val (.ref ky), .val (.int (Int32.ofNat rg)), .val (.ref st), .val (.ref it), .val (.int (Int32.ofNat n)), .val (.int (Int32.ofNat i)), .val (.int (Int32.ofNat (g i))), .unset] [(.ref ky), (.ref st)])) _
      refine XS.iload X1.here hx rfl (own_hb hby d2_33) rfl ?_
      exact kt
    obtain ⟨cl55, Ar55, hin55, hat55⟩ := own_Ar.get (j := (Int32.ofNat (g i))) (k := (g i)) pr3 ⟨rfl, hg1⟩
    refine own_Go.of (S' := (T1.setTop (mkF m 39 #[.val (.ref it), .val (.ref ky), .val (.int (Int32.ofNat rg)), .val (.ref st), .val (.ref it), .val (.int (Int32.ofNat n)), .val (.int (Int32.ofNat i)), .val (.int (Int32.ofNat (g i))), .unset] [(.int (Int32.ofNat (kf (g i) + 1))), (.ref st), (.int (Int32.ofNat (kf (g i) + 1))), (.ref st)]))) (fun t kt => ?_) ?_
    · show Steps p.tables e below (T1.setTop (mkF m 35 #[.val (.ref it), .val (.ref ky), .val (.int (Int32.ofNat rg)), .val (.ref st), .val (.ref it), .val (.int (Int32.ofNat n)), .val (.int (Int32.ofNat i)), .val (.int (Int32.ofNat (g i))), .unset] [(.int (Int32.ofNat (g i))), (.ref ky), (.ref st)])) _
      refine X1.iaload hx (j := (Int32.ofNat (g i))) (v := (.int (Int32.ofNat (kf (g i))))) (by rw [e1]; exact Ar55.1) (State.isArrayOf_alike hZ.alike Ar55.2.1) Ar55.2.2 hin55 hat55 (g := (mkF m 35 #[.val (.ref it), .val (.ref ky), .val (.int (Int32.ofNat rg)), .val (.ref st), .val (.ref it), .val (.int (Int32.ofNat n)), .val (.int (Int32.ofNat i)), .val (.int (Int32.ofNat (g i))), .unset] [(.int (Int32.ofNat (g i))), (.ref ky), (.ref st)])) rfl rfl (own_hb hby d2_35) _ ?_
      show Steps p.tables e below (T1.setTop (mkF m 36 #[.val (.ref it), .val (.ref ky), .val (.int (Int32.ofNat rg)), .val (.ref st), .val (.ref it), .val (.int (Int32.ofNat n)), .val (.int (Int32.ofNat i)), .val (.int (Int32.ofNat (g i))), .unset] [(.int (Int32.ofNat (kf (g i)))), (.ref st)])) _
      refine XS.iconst X1.here hx rfl (own_hb hby d2_36) ?_
      show Steps p.tables e below (T1.setTop (mkF m 37 #[.val (.ref it), .val (.ref ky), .val (.int (Int32.ofNat rg)), .val (.ref st), .val (.ref it), .val (.int (Int32.ofNat n)), .val (.int (Int32.ofNat i)), .val (.int (Int32.ofNat (g i))), .unset] [(.int (1 : Int32)), (.int (Int32.ofNat (kf (g i)))), (.ref st)])) _
      refine XS.iadd X1.here hx rfl (own_hb hby d2_37) rfl ?_
      show Steps p.tables e below (T1.setTop (mkF m 38 #[.val (.ref it), .val (.ref ky), .val (.int (Int32.ofNat rg)), .val (.ref st), .val (.ref it), .val (.int (Int32.ofNat n)), .val (.int (Int32.ofNat i)), .val (.int (Int32.ofNat (g i))), .unset] [(.int ((Int32.ofNat (kf (g i))) + (1 : Int32))), (.ref st)])) _
      rw [show Int32.ofNat (kf (g i)) + (1 : Int32) = Int32.ofNat (kf (g i) + 1) from own_addN _ 1]
      show Steps p.tables e below (T1.setTop (mkF m 38 #[.val (.ref it), .val (.ref ky), .val (.int (Int32.ofNat rg)), .val (.ref st), .val (.ref it), .val (.int (Int32.ofNat n)), .val (.int (Int32.ofNat i)), .val (.int (Int32.ofNat (g i))), .unset] [(.int (Int32.ofNat (kf (g i) + 1))), (.ref st)])) _
      refine own_dup2 X1.here hx rfl (own_hb hby d2_38) rfl rfl rfl ?_
      exact kt
    obtain ⟨cl56, Ar56, hin56, hat56⟩ := own_Ar.get (j := (Int32.ofNat (kf (g i) + 1))) (k := (kf (g i) + 1)) pr4 ⟨rfl, by omega⟩
    refine own_Go.of (S' := (T1.setTop (mkF m 42 #[.val (.ref it), .val (.ref ky), .val (.int (Int32.ofNat rg)), .val (.ref st), .val (.ref it), .val (.int (Int32.ofNat n)), .val (.int (Int32.ofNat i)), .val (.int (Int32.ofNat (g i))), .unset] [(.int (Int32.ofNat ((own_C1 (fun j => kf (g j)) i) (kf (g i) + 1) + 1))), (.int (Int32.ofNat (kf (g i) + 1))), (.ref st)]))) (fun t kt => ?_) ?_
    · show Steps p.tables e below (T1.setTop (mkF m 39 #[.val (.ref it), .val (.ref ky), .val (.int (Int32.ofNat rg)), .val (.ref st), .val (.ref it), .val (.int (Int32.ofNat n)), .val (.int (Int32.ofNat i)), .val (.int (Int32.ofNat (g i))), .unset] [(.int (Int32.ofNat (kf (g i) + 1))), (.ref st), (.int (Int32.ofNat (kf (g i) + 1))), (.ref st)])) _
      refine X1.iaload hx (j := (Int32.ofNat (kf (g i) + 1))) (v := (.int (Int32.ofNat ((own_C1 (fun j => kf (g j)) i) (kf (g i) + 1))))) (by rw [e1]; exact Ar56.1) (State.isArrayOf_alike hZ.alike Ar56.2.1) Ar56.2.2 hin56 hat56 (g := (mkF m 39 #[.val (.ref it), .val (.ref ky), .val (.int (Int32.ofNat rg)), .val (.ref st), .val (.ref it), .val (.int (Int32.ofNat n)), .val (.int (Int32.ofNat i)), .val (.int (Int32.ofNat (g i))), .unset] [(.int (Int32.ofNat (kf (g i) + 1))), (.ref st), (.int (Int32.ofNat (kf (g i) + 1))), (.ref st)])) rfl rfl (own_hb hby d2_39) _ ?_
      show Steps p.tables e below (T1.setTop (mkF m 40 #[.val (.ref it), .val (.ref ky), .val (.int (Int32.ofNat rg)), .val (.ref st), .val (.ref it), .val (.int (Int32.ofNat n)), .val (.int (Int32.ofNat i)), .val (.int (Int32.ofNat (g i))), .unset] [(.int (Int32.ofNat ((own_C1 (fun j => kf (g j)) i) (kf (g i) + 1)))), (.int (Int32.ofNat (kf (g i) + 1))), (.ref st)])) _
      refine XS.iconst X1.here hx rfl (own_hb hby d2_40) ?_
      show Steps p.tables e below (T1.setTop (mkF m 41 #[.val (.ref it), .val (.ref ky), .val (.int (Int32.ofNat rg)), .val (.ref st), .val (.ref it), .val (.int (Int32.ofNat n)), .val (.int (Int32.ofNat i)), .val (.int (Int32.ofNat (g i))), .unset] [(.int (1 : Int32)), (.int (Int32.ofNat ((own_C1 (fun j => kf (g j)) i) (kf (g i) + 1)))), (.int (Int32.ofNat (kf (g i) + 1))), (.ref st)])) _
      refine XS.iadd X1.here hx rfl (own_hb hby d2_41) rfl ?_
      show Steps p.tables e below (T1.setTop (mkF m 42 #[.val (.ref it), .val (.ref ky), .val (.int (Int32.ofNat rg)), .val (.ref st), .val (.ref it), .val (.int (Int32.ofNat n)), .val (.int (Int32.ofNat i)), .val (.int (Int32.ofNat (g i))), .unset] [(.int ((Int32.ofNat ((own_C1 (fun j => kf (g j)) i) (kf (g i) + 1))) + (1 : Int32))), (.int (Int32.ofNat (kf (g i) + 1))), (.ref st)])) _
      rw [show Int32.ofNat ((own_C1 (fun j => kf (g j)) i) (kf (g i) + 1)) + (1 : Int32) = Int32.ofNat ((own_C1 (fun j => kf (g j)) i) (kf (g i) + 1) + 1) from own_addN _ 1]
      exact kt
    obtain ⟨cl57, Ar57, hin57, ub57⟩ := own_Ar.put (j := (Int32.ofNat (kf (g i) + 1))) (k := (kf (g i) + 1)) pr4 ⟨rfl, by omega⟩
    obtain ⟨T57, h57, X57, e57, W57, st57⟩ := stI X1 hx hZ e1 Ar57 (j := (Int32.ofNat (kf (g i) + 1))) hin57 (g := (mkF m 42 #[.val (.ref it), .val (.ref ky), .val (.int (Int32.ofNat rg)), .val (.ref st), .val (.ref it), .val (.int (Int32.ofNat n)), .val (.int (Int32.ofNat i)), .val (.int (Int32.ofNat (g i))), .unset] [(.int (Int32.ofNat ((own_C1 (fun j => kf (g j)) i) (kf (g i) + 1) + 1))), (.int (Int32.ofNat (kf (g i) + 1))), (.ref st)])) rfl rfl (own_hb hby d2_42)
    refine own_Go.of (S' := (T57.setTop (mkF m 43 #[.val (.ref it), .val (.ref ky), .val (.int (Int32.ofNat rg)), .val (.ref st), .val (.ref it), .val (.int (Int32.ofNat n)), .val (.int (Int32.ofNat i)), .val (.int (Int32.ofNat (g i))), .unset] []))) st57 ?_
    have f58 := pr2.other W57 fi5
    have f59 := pr3.other W57 fi6
    have z60 := Nat.le_trans Z1 (Keep.of_wr W57).1
    have kp61 := kp1.wr W57 (Or.inr szst)
    have f62 : own_Ar Z h57 st .int (rg + 1) (own_I (own_N (own_ns (own_C1 (fun j => kf (g j)) i) (kf (g i) + 1) ((own_C1 (fun j => kf (g j)) i) (kf (g i) + 1) + 1)))) := by rw [← own_NI]; exact ub57 rfl W57
    have N57 := Fr.snoc X57 N1 fi3
    refine own_Go.of (S' := (T57.setTop (mkF m 17 #[.val (.ref it), .val (.ref ky), .val (.int (Int32.ofNat rg)), .val (.ref st), .val (.ref it), .val (.int (Int32.ofNat n)), .val (.int ((Int32.ofNat i) + (1 : Int32))), .val (.int (Int32.ofNat (g i))), .unset] []))) (fun t kt => ?_) ?_
    · show Steps p.tables e below (T57.setTop (mkF m 43 #[.val (.ref it), .val (.ref ky), .val (.int (Int32.ofNat rg)), .val (.ref st), .val (.ref it), .val (.int (Int32.ofNat n)), .val (.int (Int32.ofNat i)), .val (.int (Int32.ofNat (g i))), .unset] [])) _
      refine XS.iinc X57.here hx rfl (own_hb hby d2_43) rfl (l' := #[.val (.ref it), .val (.ref ky), .val (.int (Int32.ofNat rg)), .val (.ref st), .val (.ref it), .val (.int (Int32.ofNat n)), .val (.int ((Int32.ofNat i) + (1 : Int32))), .val (.int (Int32.ofNat (g i))), .unset]) rfl ?_
      show Steps p.tables e below (T57.setTop (mkF m 46 #[.val (.ref it), .val (.ref ky), .val (.int (Int32.ofNat rg)), .val (.ref st), .val (.ref it), .val (.int (Int32.ofNat n)), .val (.int ((Int32.ofNat i) + (1 : Int32))), .val (.int (Int32.ofNat (g i))), .unset] [])) _
      refine XS.goto X57.here hx rfl (pc0 := 46) (pc' := 17) rfl (own_hb hby d2_46) (by decide) (by decide) ?_
      exact kt
    refine own_Go.of (S' := (T57.setTop (mkF m 17 #[.val (.ref it), .val (.ref ky), .val (.int (Int32.ofNat rg)), .val (.ref st), .val (.ref it), .val (.int (Int32.ofNat n)), .val (.int (Int32.ofNat (i + 1))), .val (.int (Int32.ofNat (g i))), .unset] []))) (fun t kt => ?_) ?_
    · show Steps p.tables e below (T57.setTop (mkF m 17 #[.val (.ref it), .val (.ref ky), .val (.int (Int32.ofNat rg)), .val (.ref st), .val (.ref it), .val (.int (Int32.ofNat n)), .val (.int ((Int32.ofNat i) + (1 : Int32))), .val (.int (Int32.ofNat (g i))), .unset] [])) _
      rw [show Int32.ofNat i + (1 : Int32) = Int32.ofNat (i + 1) from own_addN i 1]
      exact kt
    exact ih (i + 1) (.val (.int (Int32.ofNat (g i)))) X57 e57 N57 z60 (by omega) (Or.inr ⟨_, rfl, rfl⟩) f58 f59 f62 kp61
set_option maxRecDepth 65536 in
set_option maxHeartbeats 40000000 in
theorem rm2 (l : Launch) (Z : State) (a0 : Array Value) (hw : ∀ d ∈ tables_1, d.before a0 Z = true) (ws : List Jvm.Cond) (it : Addr) (ky : Addr) (rg : Nat) (n : Nat) (g : Nat → Nat) (kf : Nat → Nat) (h0 : Heap) (n0 : Nat) (Z0 : n0 ≤ h0.size) (pr0 : own_Ar Z h0 it .int n (own_I (own_N g))) (pr1 : own_Ar Z h0 ky .int 4 (own_I (own_N kf))) (hn : n ≤ 4) (hrg : rg ≤ 7) (hg : ∀ j, j < n → g j < 4 ∧ kf (g j) < rg) :
    own_Met l Z h0 (⟨"com/example/sagasu/sagasu/CountingSort", "byKey", "([I[II)[I"⟩ : MethodName) prog_7_method_2_code 9 (some (.array .int)) ws ({ frames := 0, cells := 2, slots := 12, locals := 0 } : Room) #[(.ref it), (.ref ky), (.int (Int32.ofNat rg))] (Q_rm2 Z it ky rg n g kf h0 n0) := by
  refine own_enter (plainFor_of_name pn_2) ?_
  intro p e s m below meth c T0 X0 hx hby hml hret hlk hown hnm hZ e0
  have N0 := Fr.nil n0
  have kp0 : Keep h0 h0 [] := Keep.refl h0 _
  rw [show entryFrame m #[(.ref it), (.ref ky), (.int (Int32.ofNat rg))] 9 = (mkF m 0 #[.val (.ref it), .val (.ref ky), .val (.int (Int32.ofNat rg)), .unset, .unset, .unset, .unset, .unset, .unset] []) from by first | (simp [entryFrame, mkF, argsToLocals, Value.category]; done) | rfl]
  refine own_Go.of (S' := (T0.setTop (mkF m 3 #[.val (.ref it), .val (.ref ky), .val (.int (Int32.ofNat rg)), .unset, .unset, .unset, .unset, .unset, .unset] [(.int (Int32.ofNat (rg + 1)))]))) (fun t kt => ?_) ?_
  · show Steps p.tables e below (T0.setTop (mkF m 0 #[.val (.ref it), .val (.ref ky), .val (.int (Int32.ofNat rg)), .unset, .unset, .unset, .unset, .unset, .unset] [])) _
    refine XS.iloadN X0.here hx rfl (own_hb hby d2_0) rfl ?_
    show Steps p.tables e below (T0.setTop (mkF m 1 #[.val (.ref it), .val (.ref ky), .val (.int (Int32.ofNat rg)), .unset, .unset, .unset, .unset, .unset, .unset] [(.int (Int32.ofNat rg))])) _
    refine XS.iconst X0.here hx rfl (own_hb hby d2_1) ?_
    show Steps p.tables e below (T0.setTop (mkF m 2 #[.val (.ref it), .val (.ref ky), .val (.int (Int32.ofNat rg)), .unset, .unset, .unset, .unset, .unset, .unset] [(.int (1 : Int32)), (.int (Int32.ofNat rg))])) _
    refine XS.iadd X0.here hx rfl (own_hb hby d2_2) rfl ?_
    show Steps p.tables e below (T0.setTop (mkF m 3 #[.val (.ref it), .val (.ref ky), .val (.int (Int32.ofNat rg)), .unset, .unset, .unset, .unset, .unset, .unset] [(.int ((Int32.ofNat rg) + (1 : Int32)))])) _
    rw [show Int32.ofNat rg + (1 : Int32) = Int32.ofNat (rg + 1) from own_addN rg 1]
    exact kt
  obtain ⟨T63, h63, X63, e63, E63, A63, st63⟩ := own_newP X0 hx hZ (hw _ (List.mem_of_getElem? (i := 0) rfl)) e0 (g := (mkF m 3 #[.val (.ref it), .val (.ref ky), .val (.int (Int32.ofNat rg)), .unset, .unset, .unset, .unset, .unset, .unset] [(.int (Int32.ofNat (rg + 1)))])) rfl (own_hb hby d2_3) rfl (n := rg + 1) (cap := 8) rfl (by omega) (by decide) (by decide) (by decide)
  obtain ⟨b63, g63⟩ : ∃ z, z = h0.size := ⟨_, rfl⟩
  rw [← g63] at A63 st63
  have gx63 : n0 ≤ b63 := Nat.le_trans Z0 (Nat.le_of_eq g63.symm)
  have ne64 : it ≠ b63 := Nat.ne_of_lt (Nat.lt_of_lt_of_le pr0.lt (Nat.le_of_eq g63.symm))
  have ne65 : ky ≠ b63 := Nat.ne_of_lt (Nat.lt_of_lt_of_le pr1.lt (Nat.le_of_eq g63.symm))
  have sz63 : h0.size ≤ b63 := Nat.le_trans kp0.1 (Nat.le_of_eq g63.symm)
  refine own_Go.of (S' := (T63.setTop (mkF m 5 #[.val (.ref it), .val (.ref ky), .val (.int (Int32.ofNat rg)), .unset, .unset, .unset, .unset, .unset, .unset] [(.ref b63)]))) st63 ?_
  have f66 := pr0.ext E63
  have f67 := pr1.ext E63
  have z68 := Nat.le_trans Z0 E63.1
  have kp69 := kp0.ext E63
  have f70 : own_Ar Z h63 b63 .int (rg + 1) (own_I (own_N (fun _ => 0))) := A63
  refine own_Go.of (S' := (T63.setTop (mkF m 11 #[.val (.ref it), .val (.ref ky), .val (.int (Int32.ofNat rg)), .val (.ref b63), .val (.ref it), .unset, .unset, .unset, .unset] [(.ref it)]))) (fun t kt => ?_) ?_
  · show Steps p.tables e below (T63.setTop (mkF m 5 #[.val (.ref it), .val (.ref ky), .val (.int (Int32.ofNat rg)), .unset, .unset, .unset, .unset, .unset, .unset] [(.ref b63)])) _
    refine XS.astoreN X63.here hx rfl (own_hb hby d2_5) rfl rfl (l' := #[.val (.ref it), .val (.ref ky), .val (.int (Int32.ofNat rg)), .val (.ref b63), .unset, .unset, .unset, .unset, .unset]) rfl ?_
    show Steps p.tables e below (T63.setTop (mkF m 6 #[.val (.ref it), .val (.ref ky), .val (.int (Int32.ofNat rg)), .val (.ref b63), .unset, .unset, .unset, .unset, .unset] [])) _
    refine XS.aloadN X63.here hx rfl (own_hb hby d2_6) rfl rfl ?_
    show Steps p.tables e below (T63.setTop (mkF m 7 #[.val (.ref it), .val (.ref ky), .val (.int (Int32.ofNat rg)), .val (.ref b63), .unset, .unset, .unset, .unset, .unset] [(.ref it)])) _
    refine XS.astore X63.here hx rfl (own_hb hby d2_7) rfl rfl (l' := #[.val (.ref it), .val (.ref ky), .val (.int (Int32.ofNat rg)), .val (.ref b63), .val (.ref it), .unset, .unset, .unset, .unset]) rfl ?_
    show Steps p.tables e below (T63.setTop (mkF m 9 #[.val (.ref it), .val (.ref ky), .val (.int (Int32.ofNat rg)), .val (.ref b63), .val (.ref it), .unset, .unset, .unset, .unset] [])) _
    refine XS.aload X63.here hx rfl (own_hb hby d2_9) rfl rfl ?_
    exact kt
  obtain ⟨cl71, Ar71, hln71⟩ := own_Ar.len f66
  refine own_Go.of (S' := (T63.setTop (mkF m 17 #[.val (.ref it), .val (.ref ky), .val (.int (Int32.ofNat rg)), .val (.ref b63), .val (.ref it), .val (.int (Int32.ofNat n)), .val (.int (0 : Int32)), .unset, .unset] []))) (fun t kt => ?_) ?_
  · show Steps p.tables e below (T63.setTop (mkF m 11 #[.val (.ref it), .val (.ref ky), .val (.int (Int32.ofNat rg)), .val (.ref b63), .val (.ref it), .unset, .unset, .unset, .unset] [(.ref it)])) _
    refine X63.arraylength hx (by rw [e63]; exact Ar71.1) (State.isArrayOf_alike hZ.alike Ar71.2.1) (g := (mkF m 11 #[.val (.ref it), .val (.ref ky), .val (.int (Int32.ofNat rg)), .val (.ref b63), .val (.ref it), .unset, .unset, .unset, .unset] [(.ref it)])) rfl rfl (own_hb hby d2_11) _ ?_
    rw [hln71]
    show Steps p.tables e below (T63.setTop (mkF m 12 #[.val (.ref it), .val (.ref ky), .val (.int (Int32.ofNat rg)), .val (.ref b63), .val (.ref it), .unset, .unset, .unset, .unset] [(.int (Int32.ofNat n))])) _
    refine XS.istore X63.here hx rfl (own_hb hby d2_12) rfl (l' := #[.val (.ref it), .val (.ref ky), .val (.int (Int32.ofNat rg)), .val (.ref b63), .val (.ref it), .val (.int (Int32.ofNat n)), .unset, .unset, .unset]) rfl ?_
    show Steps p.tables e below (T63.setTop (mkF m 14 #[.val (.ref it), .val (.ref ky), .val (.int (Int32.ofNat rg)), .val (.ref b63), .val (.ref it), .val (.int (Int32.ofNat n)), .unset, .unset, .unset] [])) _
    refine XS.iconst X63.here hx rfl (own_hb hby d2_14) ?_
    show Steps p.tables e below (T63.setTop (mkF m 15 #[.val (.ref it), .val (.ref ky), .val (.int (Int32.ofNat rg)), .val (.ref b63), .val (.ref it), .val (.int (Int32.ofNat n)), .unset, .unset, .unset] [(.int (0 : Int32))])) _
    refine XS.istore X63.here hx rfl (own_hb hby d2_15) rfl (l' := #[.val (.ref it), .val (.ref ky), .val (.int (Int32.ofNat rg)), .val (.ref b63), .val (.ref it), .val (.int (Int32.ofNat n)), .val (.int (0 : Int32)), .unset, .unset]) rfl ?_
    exact kt
  exact loop1 hw hx hZ hby hml hret hlk hown hnm it ky rg n g kf h0 n0 b63 hn hrg hg gx63 sz63 ne64 ne65 n 0 .unset (own_mono X63 (by decide) (by decide)) e63 N0 z68 (by omega) (Or.inl rfl) f66 f67 f70 kp69
def Q_rm0 (Z : State) (p0 : Int32) (p1 : Int32) (p2 : Int32) (h0 : Heap) (n0 : Nat) (v : Option Value) (h : Heap) (L : List Loc) : Prop := v = some (.int (1 : Int32)) ∧ Fr n0 L
theorem pn_0 : plainName "com/example/sagasu/sagasu/CountingSortByKeyPinLaw" = true := by first | (simp [plainName, overriddenIn]; done) | decide +kernel
theorem pd_1 : parseMethodDescriptor "([I[II)[I" = some ⟨[(.array .int), (.array .int), .int], some (.array .int)⟩ := by decide +kernel
theorem pd_2 : parseMethodDescriptor "([I[I[III)Z" = some ⟨[(.array .int), (.array .int), (.array .int), .int, .int], some .boolean⟩ := by decide +kernel
set_option maxRecDepth 65536 in
set_option maxHeartbeats 40000000 in
theorem tail0 {p : Program} {l : Launch} {e : Env} {s : State} {m : MethodId} {below : List Frame} {meth : Method} {c : Code} {Z : State} {a0 : Array Value} (hw : ∀ d ∈ tables_1, d.before a0 Z = true) (hx : p.tables.exec = Jvm.exec) (hZ : Z.Warmed39 s.vm) (hby : c.code = code) (hml : c.maxLocals = 10) (hret : meth.sig.returnType = ret) (hlk : meth.locks = false) (hown : s.vm.findClass "com/example/sagasu/sagasu/CountingSortByKeyPinLaw" = some m.cls) (hnm : meth.name = "law") (p0 : Int32) (p1 : Int32) (p2 : Int32) (h0 : Heap) (n0 : Nat) (nn : Nat) (rg : Nat) (ky : Addr) (ip : Addr) (kk : Addr) (it : Addr) (kf : Nat → Nat) (gi : Nat → Nat) (kg : Nat → Nat)
    {T1 : State} {h1 : Heap} {locs : List Loc} (X1 : Stand p l e room_1 s m #[(.int p0), (.int p1), (.int p2)] below meth c T1 locs 4 16) (e1 : T1.heap = h1) (N1 : Fr n0 locs) (Z1 : n0 ≤ h1.size) (hnn : nn ≤ 4) (hrg : rg ≤ 7) (hz : rg = 0 → nn = 0) (hkf : ∀ j, j < 4 → (rg = 0 ∧ kf j = 0) ∨ kf j < rg) (hgi : ∀ j, j < 4 → gi j < 4) (hkg : ∀ j, j < 4 → kg j = kf (gi j)) (pr6 : own_Ar Z h1 ky .int 4 (own_I (own_N kf))) (pr7 : own_Ar Z h1 ip .int 4 (own_I (own_N gi))) (pr8 : own_Ar Z h1 kk .int 4 (own_I (own_N kg))) (pr9 : own_Ar Z h1 it .int nn (own_I (own_N gi))) :
    own_Go p e below (T1.setTop (mkF m 216 #[.val (.int p0), .val (.int p1), .val (.int p2), .val (.int (Int32.ofNat nn)), .val (.int (Int32.ofNat rg)), .val (.ref ky), .val (.ref ip), .val (.ref kk), .val (.ref it), .unset] [])) (own_End s (Q_rm0 Z p0 p1 p2 h0 n0) room_1.cells room_1.slots) := by
  refine own_Go.of (S' := (T1.setTop (mkF m 222 #[.val (.int p0), .val (.int p1), .val (.int p2), .val (.int (Int32.ofNat nn)), .val (.int (Int32.ofNat rg)), .val (.ref ky), .val (.ref ip), .val (.ref kk), .val (.ref it), .unset] [(.int (Int32.ofNat rg)), (.ref ky), (.ref it)]))) (fun t kt => ?_) ?_
  · show Steps p.tables e below (T1.setTop (mkF m 216 #[.val (.int p0), .val (.int p1), .val (.int p2), .val (.int (Int32.ofNat nn)), .val (.int (Int32.ofNat rg)), .val (.ref ky), .val (.ref ip), .val (.ref kk), .val (.ref it), .unset] [])) _
    refine XS.aload X1.here hx rfl (own_hb hby at_216) rfl rfl ?_
    show Steps p.tables e below (T1.setTop (mkF m 218 #[.val (.int p0), .val (.int p1), .val (.int p2), .val (.int (Int32.ofNat nn)), .val (.int (Int32.ofNat rg)), .val (.ref ky), .val (.ref ip), .val (.ref kk), .val (.ref it), .unset] [(.ref it)])) _
    refine XS.aload X1.here hx rfl (own_hb hby at_218) rfl rfl ?_
    show Steps p.tables e below (T1.setTop (mkF m 220 #[.val (.int p0), .val (.int p1), .val (.int p2), .val (.int (Int32.ofNat nn)), .val (.int (Int32.ofNat rg)), .val (.ref ky), .val (.ref ip), .val (.ref kk), .val (.ref it), .unset] [(.ref ky), (.ref it)])) _
    refine XS.iload X1.here hx rfl (own_hb hby at_220) rfl ?_
    exact kt
  obtain ⟨_, _, ⟨T72, L72, k72, n72⟩, -, X72, ⟨Lc72, hQ72, l72, y72, z72⟩, st72⟩ := Jvm.LawKit.callS X1 hx (y := (⟨"com/example/sagasu/sagasu/CountingSort", "byKey", "([I[II)[I"⟩ : MethodName)) hown (mvT hZ (hw _ (List.mem_of_getElem? (i := 5) rfl))) (mvT hZ (hw _ (List.mem_of_getElem? (i := 6) rfl))) (mvT hZ (hw _ (List.mem_of_getElem? (i := 7) rfl))) (mvT hZ (hw _ (List.mem_of_getElem? (i := 8) rfl))) (by decide) (backOf (W := 0) (rm2 l Z a0 hw [] it ky rg nn gi kf h1 n0 Z1 pr9 pr6 hnn hrg (fun j hj => ⟨hgi j (by omega), by have h1 := hkf (gi j) (hgi j (by omega)); omega⟩)) hZ (hw _ (List.mem_of_getElem? (i := 8) rfl)) (hw _ (List.mem_of_getElem? (i := 7) rfl)) (by decide) (by decide)) (g := (mkF m 222 #[.val (.int p0), .val (.int p1), .val (.int p2), .val (.int (Int32.ofNat nn)), .val (.int (Int32.ofNat rg)), .val (.ref ky), .val (.ref ip), .val (.ref kk), .val (.ref it), .unset] [(.int (Int32.ofNat rg)), (.ref ky), (.ref it)])) rfl (by rw [hml]; rfl) (argsL := [(.ref it), (.ref ky), (.int (Int32.ofNat rg))]) (rest := []) (lenOf pd_1 rfl) rfl (by show 2 * 0 + _ ≤ _; exact Nat.le_of_eq rfl) (own_hb hby at_222) (fun _ _ => ⟨rfl, e1, (by decide : 4 + 2 ≤ _), (by decide : 16 + 12 ≤ _)⟩)
  dsimp only [Pt.U, Pt.locs, Pt.cells, Pt.slots] at X72 l72 y72 z72 st72 hQ72
  subst l72 y72 z72
  obtain ⟨b72, sf72, rfl, N72q, K72, p72_0, p72_1, p72_2⟩ := hQ72
  have N72 := Fr.app N1 N72q
  refine own_Go.of (S' := (T72.setTop (mkF m 225 #[.val (.int p0), .val (.int p1), .val (.int p2), .val (.int (Int32.ofNat nn)), .val (.int (Int32.ofNat rg)), .val (.ref ky), .val (.ref ip), .val (.ref kk), .val (.ref it), .unset] [(.ref b72)]))) (fun t kt => st72 t kt) ?_
  have gx73 : n0 ≤ b72 := Nat.le_trans Z1 p72_0
  have ne74 : ky ≠ b72 := Nat.ne_of_lt (Nat.lt_of_lt_of_le pr6.lt p72_0)
  have ne75 : ip ≠ b72 := Nat.ne_of_lt (Nat.lt_of_lt_of_le pr7.lt p72_0)
  have ne76 : kk ≠ b72 := Nat.ne_of_lt (Nat.lt_of_lt_of_le pr8.lt p72_0)
  have ne77 : it ≠ b72 := Nat.ne_of_lt (Nat.lt_of_lt_of_le pr9.lt p72_0)
  have f78 := pr6.keep K72 nin0
  have f79 := pr7.keep K72 nin0
  have f80 := pr8.keep K72 nin0
  have f81 := pr9.keep K72 nin0
  have z82 := Nat.le_trans Z1 K72.1
  refine own_Go.of (S' := (T72.setTop (mkF m 234 #[.val (.int p0), .val (.int p1), .val (.int p2), .val (.int (Int32.ofNat nn)), .val (.int (Int32.ofNat rg)), .val (.ref ky), .val (.ref ip), .val (.ref kk), .val (.ref it), .val (.ref b72)] [(.ref b72)]))) (fun t kt => ?_) ?_
  · show Steps p.tables e below (T72.setTop (mkF m 225 #[.val (.int p0), .val (.int p1), .val (.int p2), .val (.int (Int32.ofNat nn)), .val (.int (Int32.ofNat rg)), .val (.ref ky), .val (.ref ip), .val (.ref kk), .val (.ref it), .unset] [(.ref b72)])) _
    refine XS.astore X72.here hx rfl (own_hb hby at_225) rfl rfl (l' := #[.val (.int p0), .val (.int p1), .val (.int p2), .val (.int (Int32.ofNat nn)), .val (.int (Int32.ofNat rg)), .val (.ref ky), .val (.ref ip), .val (.ref kk), .val (.ref it), .val (.ref b72)]) rfl ?_
    show Steps p.tables e below (T72.setTop (mkF m 227 #[.val (.int p0), .val (.int p1), .val (.int p2), .val (.int (Int32.ofNat nn)), .val (.int (Int32.ofNat rg)), .val (.ref ky), .val (.ref ip), .val (.ref kk), .val (.ref it), .val (.ref b72)] [])) _
    refine XS.aload X72.here hx rfl (own_hb hby at_227) rfl rfl ?_
    show Steps p.tables e below (T72.setTop (mkF m 229 #[.val (.int p0), .val (.int p1), .val (.int p2), .val (.int (Int32.ofNat nn)), .val (.int (Int32.ofNat rg)), .val (.ref ky), .val (.ref ip), .val (.ref kk), .val (.ref it), .val (.ref b72)] [(.ref b72)])) _
    refine XS.ifnullNo X72.here hx rfl (own_hb hby at_229) rfl ?_
    show Steps p.tables e below (T72.setTop (mkF m 232 #[.val (.int p0), .val (.int p1), .val (.int p2), .val (.int (Int32.ofNat nn)), .val (.int (Int32.ofNat rg)), .val (.ref ky), .val (.ref ip), .val (.ref kk), .val (.ref it), .val (.ref b72)] [])) _
    refine XS.aload X72.here hx rfl (own_hb hby at_232) rfl rfl ?_
    exact kt
  obtain ⟨cl83, Ar83, hln83⟩ := own_Ar.len p72_1
  refine own_Go.of (S' := (T72.setTop (mkF m 249 #[.val (.int p0), .val (.int p1), .val (.int p2), .val (.int (Int32.ofNat nn)), .val (.int (Int32.ofNat rg)), .val (.ref ky), .val (.ref ip), .val (.ref kk), .val (.ref it), .val (.ref b72)] [(.int (0 : Int32)), (.int (Int32.ofNat nn)), (.ref kk), (.ref ip), (.ref b72)]))) (fun t kt => ?_) ?_
  · show Steps p.tables e below (T72.setTop (mkF m 234 #[.val (.int p0), .val (.int p1), .val (.int p2), .val (.int (Int32.ofNat nn)), .val (.int (Int32.ofNat rg)), .val (.ref ky), .val (.ref ip), .val (.ref kk), .val (.ref it), .val (.ref b72)] [(.ref b72)])) _
    refine X72.arraylength hx Ar83.1 (State.isArrayOf_alike hZ.alike Ar83.2.1) (g := (mkF m 234 #[.val (.int p0), .val (.int p1), .val (.int p2), .val (.int (Int32.ofNat nn)), .val (.int (Int32.ofNat rg)), .val (.ref ky), .val (.ref ip), .val (.ref kk), .val (.ref it), .val (.ref b72)] [(.ref b72)])) rfl rfl (own_hb hby at_234) _ ?_
    rw [hln83]
    show Steps p.tables e below (T72.setTop (mkF m 235 #[.val (.int p0), .val (.int p1), .val (.int p2), .val (.int (Int32.ofNat nn)), .val (.int (Int32.ofNat rg)), .val (.ref ky), .val (.ref ip), .val (.ref kk), .val (.ref it), .val (.ref b72)] [(.int (Int32.ofNat nn))])) _
    refine XS.iloadN X72.here hx rfl (own_hb hby at_235) rfl ?_
    show Steps p.tables e below (T72.setTop (mkF m 236 #[.val (.int p0), .val (.int p1), .val (.int p2), .val (.int (Int32.ofNat nn)), .val (.int (Int32.ofNat rg)), .val (.ref ky), .val (.ref ip), .val (.ref kk), .val (.ref it), .val (.ref b72)] [(.int (Int32.ofNat nn)), (.int (Int32.ofNat nn))])) _
    refine XS.icmpYes X72.here hx rfl (pc0 := 236) (pc' := 241) rfl (own_hb hby at_236) rfl (teq (rfl : (Int32.ofNat nn) = (Int32.ofNat nn))).1 (by decide) (by decide) ?_
    show Steps p.tables e below (T72.setTop (mkF m 241 #[.val (.int p0), .val (.int p1), .val (.int p2), .val (.int (Int32.ofNat nn)), .val (.int (Int32.ofNat rg)), .val (.ref ky), .val (.ref ip), .val (.ref kk), .val (.ref it), .val (.ref b72)] [])) _
    refine XS.aload X72.here hx rfl (own_hb hby at_241) rfl rfl ?_
    show Steps p.tables e below (T72.setTop (mkF m 243 #[.val (.int p0), .val (.int p1), .val (.int p2), .val (.int (Int32.ofNat nn)), .val (.int (Int32.ofNat rg)), .val (.ref ky), .val (.ref ip), .val (.ref kk), .val (.ref it), .val (.ref b72)] [(.ref b72)])) _
    refine XS.aload X72.here hx rfl (own_hb hby at_243) rfl rfl ?_
    show Steps p.tables e below (T72.setTop (mkF m 245 #[.val (.int p0), .val (.int p1), .val (.int p2), .val (.int (Int32.ofNat nn)), .val (.int (Int32.ofNat rg)), .val (.ref ky), .val (.ref ip), .val (.ref kk), .val (.ref it), .val (.ref b72)] [(.ref ip), (.ref b72)])) _
    refine XS.aload X72.here hx rfl (own_hb hby at_245) rfl rfl ?_
    show Steps p.tables e below (T72.setTop (mkF m 247 #[.val (.int p0), .val (.int p1), .val (.int p2), .val (.int (Int32.ofNat nn)), .val (.int (Int32.ofNat rg)), .val (.ref ky), .val (.ref ip), .val (.ref kk), .val (.ref it), .val (.ref b72)] [(.ref kk), (.ref ip), (.ref b72)])) _
    refine XS.iloadN X72.here hx rfl (own_hb hby at_247) rfl ?_
    show Steps p.tables e below (T72.setTop (mkF m 248 #[.val (.int p0), .val (.int p1), .val (.int p2), .val (.int (Int32.ofNat nn)), .val (.int (Int32.ofNat rg)), .val (.ref ky), .val (.ref ip), .val (.ref kk), .val (.ref it), .val (.ref b72)] [(.int (Int32.ofNat nn)), (.ref kk), (.ref ip), (.ref b72)])) _
    refine XS.iconst X72.here hx rfl (own_hb hby at_248) ?_
    exact kt
  obtain ⟨_, _, ⟨T84, L84, k84, n84⟩, -, X84, ⟨Lc84, hQ84, l84, y84, z84⟩, st84⟩ := Jvm.LawKit.callS X72 hx (y := (⟨"com/example/sagasu/sagasu/CountingSortByKeyPinLaw", "placed", "([I[I[III)Z"⟩ : MethodName)) hown (mvT hZ (hw _ (List.mem_of_getElem? (i := 9) rfl))) (mvT hZ (hw _ (List.mem_of_getElem? (i := 10) rfl))) (mvT hZ (hw _ (List.mem_of_getElem? (i := 3) rfl))) (mvT hZ (hw _ (List.mem_of_getElem? (i := 11) rfl))) (by decide) (backOf (W := 0) (rm3 l Z a0 hw [] b72 ip kk nn 0 sf72 gi kg T72.heap n0 z82 p72_1 f79 f80 hnn (by decide) (fun j hj => by have h1 := hkf (gi j) (hgi j hj); rw [hkg j hj]; omega) (fun hj => by rw [own_rk_rank kg (fun j => kf (gi j)) nn 0 hnn hj (fun j hj => hkg j hj)]; exact p72_2 0 hj)) hZ (hw _ (List.mem_of_getElem? (i := 11) rfl)) (hw _ (List.mem_of_getElem? (i := 3) rfl)) (by decide) (by decide)) (g := (mkF m 249 #[.val (.int p0), .val (.int p1), .val (.int p2), .val (.int (Int32.ofNat nn)), .val (.int (Int32.ofNat rg)), .val (.ref ky), .val (.ref ip), .val (.ref kk), .val (.ref it), .val (.ref b72)] [(.int (0 : Int32)), (.int (Int32.ofNat nn)), (.ref kk), (.ref ip), (.ref b72)])) rfl (by rw [hml]; rfl) (argsL := [(.ref b72), (.ref ip), (.ref kk), (.int (Int32.ofNat nn)), (.int (0 : Int32))]) (rest := []) (lenOf pd_2 rfl) rfl (by show 2 * 0 + _ ≤ _; exact Nat.le_of_eq rfl) (own_hb hby at_249) (fun _ _ => ⟨rfl, rfl, (by decide : 6 + 0 ≤ _), (by decide : 28 + 0 ≤ _)⟩)
  dsimp only [Pt.U, Pt.locs, Pt.cells, Pt.slots] at X84 l84 y84 z84 st84 hQ84
  subst l84 y84 z84
  obtain ⟨rfl, N84q, hh84⟩ := hQ84
  have N84 := Fr.app N72 N84q
  refine own_Go.of (S' := (T84.setTop (mkF m 252 #[.val (.int p0), .val (.int p1), .val (.int p2), .val (.int (Int32.ofNat nn)), .val (.int (Int32.ofNat rg)), .val (.ref ky), .val (.ref ip), .val (.ref kk), .val (.ref it), .val (.ref b72)] [(.int (1 : Int32))]))) (fun t kt => st84 t kt) ?_
  refine own_Go.of (S' := (T84.setTop (mkF m 263 #[.val (.int p0), .val (.int p1), .val (.int p2), .val (.int (Int32.ofNat nn)), .val (.int (Int32.ofNat rg)), .val (.ref ky), .val (.ref ip), .val (.ref kk), .val (.ref it), .val (.ref b72)] [(.int (1 : Int32)), (.int (Int32.ofNat nn)), (.ref kk), (.ref ip), (.ref b72)]))) (fun t kt => ?_) ?_
  · show Steps p.tables e below (T84.setTop (mkF m 252 #[.val (.int p0), .val (.int p1), .val (.int p2), .val (.int (Int32.ofNat nn)), .val (.int (Int32.ofNat rg)), .val (.ref ky), .val (.ref ip), .val (.ref kk), .val (.ref it), .val (.ref b72)] [(.int (1 : Int32))])) _
    refine XS.ifNo X84.here hx rfl (own_hb hby at_252) rfl ((if0 _ _).trans (feq (by decide : ¬ ((1 : Int32) = (0 : Int32)))).1) ?_
    show Steps p.tables e below (T84.setTop (mkF m 255 #[.val (.int p0), .val (.int p1), .val (.int p2), .val (.int (Int32.ofNat nn)), .val (.int (Int32.ofNat rg)), .val (.ref ky), .val (.ref ip), .val (.ref kk), .val (.ref it), .val (.ref b72)] [])) _
    refine XS.aload X84.here hx rfl (own_hb hby at_255) rfl rfl ?_
    show Steps p.tables e below (T84.setTop (mkF m 257 #[.val (.int p0), .val (.int p1), .val (.int p2), .val (.int (Int32.ofNat nn)), .val (.int (Int32.ofNat rg)), .val (.ref ky), .val (.ref ip), .val (.ref kk), .val (.ref it), .val (.ref b72)] [(.ref b72)])) _
    refine XS.aload X84.here hx rfl (own_hb hby at_257) rfl rfl ?_
    show Steps p.tables e below (T84.setTop (mkF m 259 #[.val (.int p0), .val (.int p1), .val (.int p2), .val (.int (Int32.ofNat nn)), .val (.int (Int32.ofNat rg)), .val (.ref ky), .val (.ref ip), .val (.ref kk), .val (.ref it), .val (.ref b72)] [(.ref ip), (.ref b72)])) _
    refine XS.aload X84.here hx rfl (own_hb hby at_259) rfl rfl ?_
    show Steps p.tables e below (T84.setTop (mkF m 261 #[.val (.int p0), .val (.int p1), .val (.int p2), .val (.int (Int32.ofNat nn)), .val (.int (Int32.ofNat rg)), .val (.ref ky), .val (.ref ip), .val (.ref kk), .val (.ref it), .val (.ref b72)] [(.ref kk), (.ref ip), (.ref b72)])) _
    refine XS.iloadN X84.here hx rfl (own_hb hby at_261) rfl ?_
    show Steps p.tables e below (T84.setTop (mkF m 262 #[.val (.int p0), .val (.int p1), .val (.int p2), .val (.int (Int32.ofNat nn)), .val (.int (Int32.ofNat rg)), .val (.ref ky), .val (.ref ip), .val (.ref kk), .val (.ref it), .val (.ref b72)] [(.int (Int32.ofNat nn)), (.ref kk), (.ref ip), (.ref b72)])) _
    refine XS.iconst X84.here hx rfl (own_hb hby at_262) ?_
    exact kt
  obtain ⟨_, _, ⟨T85, L85, k85, n85⟩, -, X85, ⟨Lc85, hQ85, l85, y85, z85⟩, st85⟩ := Jvm.LawKit.callS X84 hx (y := (⟨"com/example/sagasu/sagasu/CountingSortByKeyPinLaw", "placed", "([I[I[III)Z"⟩ : MethodName)) hown (mvT hZ (hw _ (List.mem_of_getElem? (i := 9) rfl))) (mvT hZ (hw _ (List.mem_of_getElem? (i := 10) rfl))) (mvT hZ (hw _ (List.mem_of_getElem? (i := 3) rfl))) (mvT hZ (hw _ (List.mem_of_getElem? (i := 11) rfl))) (by decide) (backOf (W := 0) (rm3 l Z a0 hw [] b72 ip kk nn 1 sf72 gi kg T72.heap n0 z82 p72_1 f79 f80 hnn (by decide) (fun j hj => by have h1 := hkf (gi j) (hgi j hj); rw [hkg j hj]; omega) (fun hj => by rw [own_rk_rank kg (fun j => kf (gi j)) nn 1 hnn hj (fun j hj => hkg j hj)]; exact p72_2 1 hj)) hZ (hw _ (List.mem_of_getElem? (i := 11) rfl)) (hw _ (List.mem_of_getElem? (i := 3) rfl)) (by decide) (by decide)) (g := (mkF m 263 #[.val (.int p0), .val (.int p1), .val (.int p2), .val (.int (Int32.ofNat nn)), .val (.int (Int32.ofNat rg)), .val (.ref ky), .val (.ref ip), .val (.ref kk), .val (.ref it), .val (.ref b72)] [(.int (1 : Int32)), (.int (Int32.ofNat nn)), (.ref kk), (.ref ip), (.ref b72)])) rfl (by rw [hml]; rfl) (argsL := [(.ref b72), (.ref ip), (.ref kk), (.int (Int32.ofNat nn)), (.int (1 : Int32))]) (rest := []) (lenOf pd_2 rfl) rfl (by show 2 * 0 + _ ≤ _; exact Nat.le_of_eq rfl) (own_hb hby at_263) (fun _ _ => ⟨rfl, hh84, (by decide : 6 + 0 ≤ _), (by decide : 28 + 0 ≤ _)⟩)
  dsimp only [Pt.U, Pt.locs, Pt.cells, Pt.slots] at X85 l85 y85 z85 st85 hQ85
  subst l85 y85 z85
  obtain ⟨rfl, N85q, hh85⟩ := hQ85
  have N85 := Fr.app N84 N85q
  refine own_Go.of (S' := (T85.setTop (mkF m 266 #[.val (.int p0), .val (.int p1), .val (.int p2), .val (.int (Int32.ofNat nn)), .val (.int (Int32.ofNat rg)), .val (.ref ky), .val (.ref ip), .val (.ref kk), .val (.ref it), .val (.ref b72)] [(.int (1 : Int32))]))) (fun t kt => st85 t kt) ?_
  refine own_Go.of (S' := (T85.setTop (mkF m 277 #[.val (.int p0), .val (.int p1), .val (.int p2), .val (.int (Int32.ofNat nn)), .val (.int (Int32.ofNat rg)), .val (.ref ky), .val (.ref ip), .val (.ref kk), .val (.ref it), .val (.ref b72)] [(.int (2 : Int32)), (.int (Int32.ofNat nn)), (.ref kk), (.ref ip), (.ref b72)]))) (fun t kt => ?_) ?_
  · show Steps p.tables e below (T85.setTop (mkF m 266 #[.val (.int p0), .val (.int p1), .val (.int p2), .val (.int (Int32.ofNat nn)), .val (.int (Int32.ofNat rg)), .val (.ref ky), .val (.ref ip), .val (.ref kk), .val (.ref it), .val (.ref b72)] [(.int (1 : Int32))])) _
    refine XS.ifNo X85.here hx rfl (own_hb hby at_266) rfl ((if0 _ _).trans (feq (by decide : ¬ ((1 : Int32) = (0 : Int32)))).1) ?_
    show Steps p.tables e below (T85.setTop (mkF m 269 #[.val (.int p0), .val (.int p1), .val (.int p2), .val (.int (Int32.ofNat nn)), .val (.int (Int32.ofNat rg)), .val (.ref ky), .val (.ref ip), .val (.ref kk), .val (.ref it), .val (.ref b72)] [])) _
    refine XS.aload X85.here hx rfl (own_hb hby at_269) rfl rfl ?_
    show Steps p.tables e below (T85.setTop (mkF m 271 #[.val (.int p0), .val (.int p1), .val (.int p2), .val (.int (Int32.ofNat nn)), .val (.int (Int32.ofNat rg)), .val (.ref ky), .val (.ref ip), .val (.ref kk), .val (.ref it), .val (.ref b72)] [(.ref b72)])) _
    refine XS.aload X85.here hx rfl (own_hb hby at_271) rfl rfl ?_
    show Steps p.tables e below (T85.setTop (mkF m 273 #[.val (.int p0), .val (.int p1), .val (.int p2), .val (.int (Int32.ofNat nn)), .val (.int (Int32.ofNat rg)), .val (.ref ky), .val (.ref ip), .val (.ref kk), .val (.ref it), .val (.ref b72)] [(.ref ip), (.ref b72)])) _
    refine XS.aload X85.here hx rfl (own_hb hby at_273) rfl rfl ?_
    show Steps p.tables e below (T85.setTop (mkF m 275 #[.val (.int p0), .val (.int p1), .val (.int p2), .val (.int (Int32.ofNat nn)), .val (.int (Int32.ofNat rg)), .val (.ref ky), .val (.ref ip), .val (.ref kk), .val (.ref it), .val (.ref b72)] [(.ref kk), (.ref ip), (.ref b72)])) _
    refine XS.iloadN X85.here hx rfl (own_hb hby at_275) rfl ?_
    show Steps p.tables e below (T85.setTop (mkF m 276 #[.val (.int p0), .val (.int p1), .val (.int p2), .val (.int (Int32.ofNat nn)), .val (.int (Int32.ofNat rg)), .val (.ref ky), .val (.ref ip), .val (.ref kk), .val (.ref it), .val (.ref b72)] [(.int (Int32.ofNat nn)), (.ref kk), (.ref ip), (.ref b72)])) _
    refine XS.iconst X85.here hx rfl (own_hb hby at_276) ?_
    exact kt
  obtain ⟨_, _, ⟨T86, L86, k86, n86⟩, -, X86, ⟨Lc86, hQ86, l86, y86, z86⟩, st86⟩ := Jvm.LawKit.callS X85 hx (y := (⟨"com/example/sagasu/sagasu/CountingSortByKeyPinLaw", "placed", "([I[I[III)Z"⟩ : MethodName)) hown (mvT hZ (hw _ (List.mem_of_getElem? (i := 9) rfl))) (mvT hZ (hw _ (List.mem_of_getElem? (i := 10) rfl))) (mvT hZ (hw _ (List.mem_of_getElem? (i := 3) rfl))) (mvT hZ (hw _ (List.mem_of_getElem? (i := 11) rfl))) (by decide) (backOf (W := 0) (rm3 l Z a0 hw [] b72 ip kk nn 2 sf72 gi kg T72.heap n0 z82 p72_1 f79 f80 hnn (by decide) (fun j hj => by have h1 := hkf (gi j) (hgi j hj); rw [hkg j hj]; omega) (fun hj => by rw [own_rk_rank kg (fun j => kf (gi j)) nn 2 hnn hj (fun j hj => hkg j hj)]; exact p72_2 2 hj)) hZ (hw _ (List.mem_of_getElem? (i := 11) rfl)) (hw _ (List.mem_of_getElem? (i := 3) rfl)) (by decide) (by decide)) (g := (mkF m 277 #[.val (.int p0), .val (.int p1), .val (.int p2), .val (.int (Int32.ofNat nn)), .val (.int (Int32.ofNat rg)), .val (.ref ky), .val (.ref ip), .val (.ref kk), .val (.ref it), .val (.ref b72)] [(.int (2 : Int32)), (.int (Int32.ofNat nn)), (.ref kk), (.ref ip), (.ref b72)])) rfl (by rw [hml]; rfl) (argsL := [(.ref b72), (.ref ip), (.ref kk), (.int (Int32.ofNat nn)), (.int (2 : Int32))]) (rest := []) (lenOf pd_2 rfl) rfl (by show 2 * 0 + _ ≤ _; exact Nat.le_of_eq rfl) (own_hb hby at_277) (fun _ _ => ⟨rfl, hh85, (by decide : 6 + 0 ≤ _), (by decide : 28 + 0 ≤ _)⟩)
  dsimp only [Pt.U, Pt.locs, Pt.cells, Pt.slots] at X86 l86 y86 z86 st86 hQ86
  subst l86 y86 z86
  obtain ⟨rfl, N86q, hh86⟩ := hQ86
  have N86 := Fr.app N85 N86q
  refine own_Go.of (S' := (T86.setTop (mkF m 280 #[.val (.int p0), .val (.int p1), .val (.int p2), .val (.int (Int32.ofNat nn)), .val (.int (Int32.ofNat rg)), .val (.ref ky), .val (.ref ip), .val (.ref kk), .val (.ref it), .val (.ref b72)] [(.int (1 : Int32))]))) (fun t kt => st86 t kt) ?_
  refine own_Go.of (S' := (T86.setTop (mkF m 291 #[.val (.int p0), .val (.int p1), .val (.int p2), .val (.int (Int32.ofNat nn)), .val (.int (Int32.ofNat rg)), .val (.ref ky), .val (.ref ip), .val (.ref kk), .val (.ref it), .val (.ref b72)] [(.int (3 : Int32)), (.int (Int32.ofNat nn)), (.ref kk), (.ref ip), (.ref b72)]))) (fun t kt => ?_) ?_
  · show Steps p.tables e below (T86.setTop (mkF m 280 #[.val (.int p0), .val (.int p1), .val (.int p2), .val (.int (Int32.ofNat nn)), .val (.int (Int32.ofNat rg)), .val (.ref ky), .val (.ref ip), .val (.ref kk), .val (.ref it), .val (.ref b72)] [(.int (1 : Int32))])) _
    refine XS.ifNo X86.here hx rfl (own_hb hby at_280) rfl ((if0 _ _).trans (feq (by decide : ¬ ((1 : Int32) = (0 : Int32)))).1) ?_
    show Steps p.tables e below (T86.setTop (mkF m 283 #[.val (.int p0), .val (.int p1), .val (.int p2), .val (.int (Int32.ofNat nn)), .val (.int (Int32.ofNat rg)), .val (.ref ky), .val (.ref ip), .val (.ref kk), .val (.ref it), .val (.ref b72)] [])) _
    refine XS.aload X86.here hx rfl (own_hb hby at_283) rfl rfl ?_
    show Steps p.tables e below (T86.setTop (mkF m 285 #[.val (.int p0), .val (.int p1), .val (.int p2), .val (.int (Int32.ofNat nn)), .val (.int (Int32.ofNat rg)), .val (.ref ky), .val (.ref ip), .val (.ref kk), .val (.ref it), .val (.ref b72)] [(.ref b72)])) _
    refine XS.aload X86.here hx rfl (own_hb hby at_285) rfl rfl ?_
    show Steps p.tables e below (T86.setTop (mkF m 287 #[.val (.int p0), .val (.int p1), .val (.int p2), .val (.int (Int32.ofNat nn)), .val (.int (Int32.ofNat rg)), .val (.ref ky), .val (.ref ip), .val (.ref kk), .val (.ref it), .val (.ref b72)] [(.ref ip), (.ref b72)])) _
    refine XS.aload X86.here hx rfl (own_hb hby at_287) rfl rfl ?_
    show Steps p.tables e below (T86.setTop (mkF m 289 #[.val (.int p0), .val (.int p1), .val (.int p2), .val (.int (Int32.ofNat nn)), .val (.int (Int32.ofNat rg)), .val (.ref ky), .val (.ref ip), .val (.ref kk), .val (.ref it), .val (.ref b72)] [(.ref kk), (.ref ip), (.ref b72)])) _
    refine XS.iloadN X86.here hx rfl (own_hb hby at_289) rfl ?_
    show Steps p.tables e below (T86.setTop (mkF m 290 #[.val (.int p0), .val (.int p1), .val (.int p2), .val (.int (Int32.ofNat nn)), .val (.int (Int32.ofNat rg)), .val (.ref ky), .val (.ref ip), .val (.ref kk), .val (.ref it), .val (.ref b72)] [(.int (Int32.ofNat nn)), (.ref kk), (.ref ip), (.ref b72)])) _
    refine XS.iconst X86.here hx rfl (own_hb hby at_290) ?_
    exact kt
  obtain ⟨_, _, ⟨T87, L87, k87, n87⟩, -, X87, ⟨Lc87, hQ87, l87, y87, z87⟩, st87⟩ := Jvm.LawKit.callS X86 hx (y := (⟨"com/example/sagasu/sagasu/CountingSortByKeyPinLaw", "placed", "([I[I[III)Z"⟩ : MethodName)) hown (mvT hZ (hw _ (List.mem_of_getElem? (i := 9) rfl))) (mvT hZ (hw _ (List.mem_of_getElem? (i := 10) rfl))) (mvT hZ (hw _ (List.mem_of_getElem? (i := 3) rfl))) (mvT hZ (hw _ (List.mem_of_getElem? (i := 11) rfl))) (by decide) (backOf (W := 0) (rm3 l Z a0 hw [] b72 ip kk nn 3 sf72 gi kg T72.heap n0 z82 p72_1 f79 f80 hnn (by decide) (fun j hj => by have h1 := hkf (gi j) (hgi j hj); rw [hkg j hj]; omega) (fun hj => by rw [own_rk_rank kg (fun j => kf (gi j)) nn 3 hnn hj (fun j hj => hkg j hj)]; exact p72_2 3 hj)) hZ (hw _ (List.mem_of_getElem? (i := 11) rfl)) (hw _ (List.mem_of_getElem? (i := 3) rfl)) (by decide) (by decide)) (g := (mkF m 291 #[.val (.int p0), .val (.int p1), .val (.int p2), .val (.int (Int32.ofNat nn)), .val (.int (Int32.ofNat rg)), .val (.ref ky), .val (.ref ip), .val (.ref kk), .val (.ref it), .val (.ref b72)] [(.int (3 : Int32)), (.int (Int32.ofNat nn)), (.ref kk), (.ref ip), (.ref b72)])) rfl (by rw [hml]; rfl) (argsL := [(.ref b72), (.ref ip), (.ref kk), (.int (Int32.ofNat nn)), (.int (3 : Int32))]) (rest := []) (lenOf pd_2 rfl) rfl (by show 2 * 0 + _ ≤ _; exact Nat.le_of_eq rfl) (own_hb hby at_291) (fun _ _ => ⟨rfl, hh86, (by decide : 6 + 0 ≤ _), (by decide : 28 + 0 ≤ _)⟩)
  dsimp only [Pt.U, Pt.locs, Pt.cells, Pt.slots] at X87 l87 y87 z87 st87 hQ87
  subst l87 y87 z87
  obtain ⟨rfl, N87q, hh87⟩ := hQ87
  have N87 := Fr.app N86 N87q
  refine own_Go.of (S' := (T87.setTop (mkF m 294 #[.val (.int p0), .val (.int p1), .val (.int p2), .val (.int (Int32.ofNat nn)), .val (.int (Int32.ofNat rg)), .val (.ref ky), .val (.ref ip), .val (.ref kk), .val (.ref it), .val (.ref b72)] [(.int (1 : Int32))]))) (fun t kt => st87 t kt) ?_
  refine own_Go.of (S' := (T87.setTop (mkF m 302 #[.val (.int p0), .val (.int p1), .val (.int p2), .val (.int (Int32.ofNat nn)), .val (.int (Int32.ofNat rg)), .val (.ref ky), .val (.ref ip), .val (.ref kk), .val (.ref it), .val (.ref b72)] [(.int (1 : Int32))]))) (fun t kt => ?_) ?_
  · show Steps p.tables e below (T87.setTop (mkF m 294 #[.val (.int p0), .val (.int p1), .val (.int p2), .val (.int (Int32.ofNat nn)), .val (.int (Int32.ofNat rg)), .val (.ref ky), .val (.ref ip), .val (.ref kk), .val (.ref it), .val (.ref b72)] [(.int (1 : Int32))])) _
    refine XS.ifNo X87.here hx rfl (own_hb hby at_294) rfl ((if0 _ _).trans (feq (by decide : ¬ ((1 : Int32) = (0 : Int32)))).1) ?_
    show Steps p.tables e below (T87.setTop (mkF m 297 #[.val (.int p0), .val (.int p1), .val (.int p2), .val (.int (Int32.ofNat nn)), .val (.int (Int32.ofNat rg)), .val (.ref ky), .val (.ref ip), .val (.ref kk), .val (.ref it), .val (.ref b72)] [])) _
    refine XS.iconst X87.here hx rfl (own_hb hby at_297) ?_
    show Steps p.tables e below (T87.setTop (mkF m 298 #[.val (.int p0), .val (.int p1), .val (.int p2), .val (.int (Int32.ofNat nn)), .val (.int (Int32.ofNat rg)), .val (.ref ky), .val (.ref ip), .val (.ref kk), .val (.ref it), .val (.ref b72)] [(.int (1 : Int32))])) _
    refine XS.goto X87.here hx rfl (pc0 := 298) (pc' := 302) rfl (own_hb hby at_298) (by decide) (by decide) ?_
    exact kt
  exact own_retN X87 hx hlk (t := .boolean) hret (by simp) (own_hb hby at_302) hh87 ⟨rfl, N87⟩ (by decide) (by decide)
theorem pd_3 : parseMethodDescriptor "(III)I" = some ⟨[.int, .int, .int], some .int⟩ := by decide +kernel
set_option maxRecDepth 65536 in
set_option maxHeartbeats 40000000 in
theorem rm0 (l : Launch) (Z : State) (a0 : Array Value) (hw : ∀ d ∈ tables_1, d.before a0 Z = true) (ws : List Jvm.Cond) (p0 : Int32) (p1 : Int32) (p2 : Int32) (h0 : Heap) (n0 : Nat) (Z0 : n0 ≤ h0.size)  :
    own_Met l Z h0 x code maxLocals ret ws room_1 #[(.int p0), (.int p1), (.int p2)] (Q_rm0 Z p0 p1 p2 h0 n0) := by
  refine own_enter (plainFor_of_name pn_0) ?_
  intro p e s m below meth c T0 X0 hx hby hml hret hlk hown hnm hZ e0
  have N0 := Fr.nil n0
  rw [show entryFrame m #[(.int p0), (.int p1), (.int p2)] maxLocals = (mkF m 0 #[.val (.int p0), .val (.int p1), .val (.int p2), .unset, .unset, .unset, .unset, .unset, .unset, .unset] []) from by first | (simp [entryFrame, mkF, argsToLocals, Value.category, maxLocals]; done) | rfl]
  refine own_Go.of (S' := (T0.setTop (mkF m 4 #[.val (.int p0), .val (.int p1), .val (.int p2), .unset, .unset, .unset, .unset, .unset, .unset, .unset] [(.int (p0 &&& (7 : Int32)))]))) (fun t kt => ?_) ?_
  · show Steps p.tables e below (T0.setTop (mkF m 0 #[.val (.int p0), .val (.int p1), .val (.int p2), .unset, .unset, .unset, .unset, .unset, .unset, .unset] [])) _
    refine XS.iloadN X0.here hx rfl (own_hb hby at_0) rfl ?_
    show Steps p.tables e below (T0.setTop (mkF m 1 #[.val (.int p0), .val (.int p1), .val (.int p2), .unset, .unset, .unset, .unset, .unset, .unset, .unset] [(.int p0)])) _
    refine XS.bipush X0.here hx rfl (own_hb hby at_1) ?_
    show Steps p.tables e below (T0.setTop (mkF m 3 #[.val (.int p0), .val (.int p1), .val (.int p2), .unset, .unset, .unset, .unset, .unset, .unset, .unset] [(.int (7 : Int32)), (.int p0)])) _
    refine XS.iand X0.here hx rfl (own_hb hby at_3) rfl ?_
    exact kt
  obtain ⟨na, hna, ena⟩ : ∃ n : Nat, n ≤ 7 ∧ (p0 &&& (7 : Int32)) = Int32.ofNat n := own_mask _ 7
  refine own_Go.of (S' := (T0.setTop (mkF m 13 #[.val (.int p0), .val (.int p1), .val (.int p2), .val (.int (Int32.ofNat (na % 5))), .unset, .unset, .unset, .unset, .unset, .unset] [(.int (((p0.toUInt32 >>> ((3 : Int32) &&& 31).toUInt32).toInt32) &&& (7 : Int32)))]))) (fun t kt => ?_) ?_
  · show Steps p.tables e below (T0.setTop (mkF m 4 #[.val (.int p0), .val (.int p1), .val (.int p2), .unset, .unset, .unset, .unset, .unset, .unset, .unset] [(.int (p0 &&& (7 : Int32)))])) _
    rw [ena]
    show Steps p.tables e below (T0.setTop (mkF m 4 #[.val (.int p0), .val (.int p1), .val (.int p2), .unset, .unset, .unset, .unset, .unset, .unset, .unset] [(.int (Int32.ofNat na))])) _
    refine XS.iconst X0.here hx rfl (own_hb hby at_4) ?_
    show Steps p.tables e below (T0.setTop (mkF m 5 #[.val (.int p0), .val (.int p1), .val (.int p2), .unset, .unset, .unset, .unset, .unset, .unset, .unset] [(.int (5 : Int32)), (.int (Int32.ofNat na))])) _
    refine XS.irem X0.here hx rfl (own_hb hby at_5) rfl (by decide) ?_
    show Steps p.tables e below (T0.setTop (mkF m 6 #[.val (.int p0), .val (.int p1), .val (.int p2), .unset, .unset, .unset, .unset, .unset, .unset, .unset] [(.int ((Int32.ofNat na) - ((Int32.ofNat na) / (5 : Int32)) * (5 : Int32)))])) _
    rw [show ((Int32.ofNat na) - ((Int32.ofNat na) / (5 : Int32)) * (5 : Int32)) = Int32.ofNat (na % 5) from own_remN (a := na) (b := 5) (by omega) (by omega)]
    show Steps p.tables e below (T0.setTop (mkF m 6 #[.val (.int p0), .val (.int p1), .val (.int p2), .unset, .unset, .unset, .unset, .unset, .unset, .unset] [(.int (Int32.ofNat (na % 5)))])) _
    refine XS.istoreN X0.here hx rfl (own_hb hby at_6) rfl (l' := #[.val (.int p0), .val (.int p1), .val (.int p2), .val (.int (Int32.ofNat (na % 5))), .unset, .unset, .unset, .unset, .unset, .unset]) rfl ?_
    show Steps p.tables e below (T0.setTop (mkF m 7 #[.val (.int p0), .val (.int p1), .val (.int p2), .val (.int (Int32.ofNat (na % 5))), .unset, .unset, .unset, .unset, .unset, .unset] [])) _
    refine XS.iloadN X0.here hx rfl (own_hb hby at_7) rfl ?_
    show Steps p.tables e below (T0.setTop (mkF m 8 #[.val (.int p0), .val (.int p1), .val (.int p2), .val (.int (Int32.ofNat (na % 5))), .unset, .unset, .unset, .unset, .unset, .unset] [(.int p0)])) _
    refine XS.iconst X0.here hx rfl (own_hb hby at_8) ?_
    show Steps p.tables e below (T0.setTop (mkF m 9 #[.val (.int p0), .val (.int p1), .val (.int p2), .val (.int (Int32.ofNat (na % 5))), .unset, .unset, .unset, .unset, .unset, .unset] [(.int (3 : Int32)), (.int p0)])) _
    refine XS.iushr X0.here hx rfl (own_hb hby at_9) rfl ?_
    show Steps p.tables e below (T0.setTop (mkF m 10 #[.val (.int p0), .val (.int p1), .val (.int p2), .val (.int (Int32.ofNat (na % 5))), .unset, .unset, .unset, .unset, .unset, .unset] [(.int ((p0.toUInt32 >>> ((3 : Int32) &&& 31).toUInt32).toInt32))])) _
    refine XS.bipush X0.here hx rfl (own_hb hby at_10) ?_
    show Steps p.tables e below (T0.setTop (mkF m 12 #[.val (.int p0), .val (.int p1), .val (.int p2), .val (.int (Int32.ofNat (na % 5))), .unset, .unset, .unset, .unset, .unset, .unset] [(.int (7 : Int32)), (.int ((p0.toUInt32 >>> ((3 : Int32) &&& 31).toUInt32).toInt32))])) _
    refine XS.iand X0.here hx rfl (own_hb hby at_12) rfl ?_
    exact kt
  obtain ⟨rg, hrg, erg⟩ : ∃ n : Nat, n ≤ 7 ∧ (((p0.toUInt32 >>> ((3 : Int32) &&& 31).toUInt32).toInt32) &&& (7 : Int32)) = Int32.ofNat n := own_mask _ 7
  refine own_Go.of (S' := (T0.setTop (mkF m 15 #[.val (.int p0), .val (.int p1), .val (.int p2), .val (.int (Int32.ofNat (na % 5))), .val (.int (Int32.ofNat rg)), .unset, .unset, .unset, .unset, .unset] []))) (fun t kt => ?_) ?_
  · show Steps p.tables e below (T0.setTop (mkF m 13 #[.val (.int p0), .val (.int p1), .val (.int p2), .val (.int (Int32.ofNat (na % 5))), .unset, .unset, .unset, .unset, .unset, .unset] [(.int (((p0.toUInt32 >>> ((3 : Int32) &&& 31).toUInt32).toInt32) &&& (7 : Int32)))])) _
    rw [erg]
    show Steps p.tables e below (T0.setTop (mkF m 13 #[.val (.int p0), .val (.int p1), .val (.int p2), .val (.int (Int32.ofNat (na % 5))), .unset, .unset, .unset, .unset, .unset, .unset] [(.int (Int32.ofNat rg))])) _
    refine XS.istore X0.here hx rfl (own_hb hby at_13) rfl (l' := #[.val (.int p0), .val (.int p1), .val (.int p2), .val (.int (Int32.ofNat (na % 5))), .val (.int (Int32.ofNat rg)), .unset, .unset, .unset, .unset, .unset]) rfl ?_
    exact kt
  obtain ⟨v89, hd91, st90⟩ : ∃ v89 : Int32, ((v89 = (0 : Int32) ∧ rg = 0) ∨ (v89 = (Int32.ofNat (na % 5)) ∧ ¬ (rg = 0))) ∧ ∀ t, Steps p.tables e below (T0.setTop (mkF m 22 #[.val (.int p0), .val (.int p1), .val (.int p2), .val (.int v89), .val (.int (Int32.ofNat rg)), .unset, .unset, .unset, .unset, .unset] [])) t → Steps p.tables e below (T0.setTop (mkF m 15 #[.val (.int p0), .val (.int p1), .val (.int p2), .val (.int (Int32.ofNat (na % 5))), .val (.int (Int32.ofNat rg)), .unset, .unset, .unset, .unset, .unset] [])) t := by
    by_cases hc17_88 : rg = 0
    · skip
      refine ⟨(0 : Int32), (Or.inl (⟨rfl, hc17_88⟩)), fun t kt => ?_⟩
      show Steps p.tables e below (T0.setTop (mkF m 15 #[.val (.int p0), .val (.int p1), .val (.int p2), .val (.int (Int32.ofNat (na % 5))), .val (.int (Int32.ofNat rg)), .unset, .unset, .unset, .unset, .unset] [])) _
      refine XS.iload X0.here hx rfl (own_hb hby at_15) rfl ?_
      show Steps p.tables e below (T0.setTop (mkF m 17 #[.val (.int p0), .val (.int p1), .val (.int p2), .val (.int (Int32.ofNat (na % 5))), .val (.int (Int32.ofNat rg)), .unset, .unset, .unset, .unset, .unset] [(.int (Int32.ofNat rg))])) _
      refine XS.ifNo X0.here hx rfl (own_hb hby at_17) rfl ((if0 _ _).trans (teq (own_eqN' hc17_88)).2) ?_
      show Steps p.tables e below (T0.setTop (mkF m 20 #[.val (.int p0), .val (.int p1), .val (.int p2), .val (.int (Int32.ofNat (na % 5))), .val (.int (Int32.ofNat rg)), .unset, .unset, .unset, .unset, .unset] [])) _
      refine XS.iconst X0.here hx rfl (own_hb hby at_20) ?_
      show Steps p.tables e below (T0.setTop (mkF m 21 #[.val (.int p0), .val (.int p1), .val (.int p2), .val (.int (Int32.ofNat (na % 5))), .val (.int (Int32.ofNat rg)), .unset, .unset, .unset, .unset, .unset] [(.int (0 : Int32))])) _
      refine XS.istoreN X0.here hx rfl (own_hb hby at_21) rfl (l' := #[.val (.int p0), .val (.int p1), .val (.int p2), .val (.int (0 : Int32)), .val (.int (Int32.ofNat rg)), .unset, .unset, .unset, .unset, .unset]) rfl ?_
      exact kt
    · skip
      refine ⟨(Int32.ofNat (na % 5)), (Or.inr (⟨rfl, hc17_88⟩)), fun t kt => ?_⟩
      show Steps p.tables e below (T0.setTop (mkF m 15 #[.val (.int p0), .val (.int p1), .val (.int p2), .val (.int (Int32.ofNat (na % 5))), .val (.int (Int32.ofNat rg)), .unset, .unset, .unset, .unset, .unset] [])) _
      refine XS.iload X0.here hx rfl (own_hb hby at_15) rfl ?_
      show Steps p.tables e below (T0.setTop (mkF m 17 #[.val (.int p0), .val (.int p1), .val (.int p2), .val (.int (Int32.ofNat (na % 5))), .val (.int (Int32.ofNat rg)), .unset, .unset, .unset, .unset, .unset] [(.int (Int32.ofNat rg))])) _
      refine XS.ifYes X0.here hx rfl (pc0 := 17) (pc' := 22) rfl (own_hb hby at_17) rfl ((if0 _ _).trans (feq (fun q => hc17_88 ((own_eqN (by omega) (by omega)).mp q))).2) (by decide) (by decide) ?_
      exact kt
  refine own_Go.of (S' := (T0.setTop (mkF m 22 #[.val (.int p0), .val (.int p1), .val (.int p2), .val (.int v89), .val (.int (Int32.ofNat rg)), .unset, .unset, .unset, .unset, .unset] []))) st90 ?_
  obtain ⟨nn, hnn, hz, rfl⟩ : ∃ nn : Nat, nn ≤ 4 ∧ (rg = 0 → nn = 0) ∧ v89 = Int32.ofNat nn := by
    rcases hd91 with q | q
    · first | exact ⟨0, by decide, fun _ => rfl, q.1⟩ | exact ⟨na % 5, by omega, fun z => by omega, q.1⟩
    · first | exact ⟨0, by decide, fun _ => rfl, q.1⟩ | exact ⟨na % 5, by omega, fun z => by omega, q.1⟩
  refine own_Go.of (S' := (T0.setTop (mkF m 23 #[.val (.int p0), .val (.int p1), .val (.int p2), .val (.int (Int32.ofNat nn)), .val (.int (Int32.ofNat rg)), .unset, .unset, .unset, .unset, .unset] [(.int (4 : Int32))]))) (fun t kt => ?_) ?_
  · show Steps p.tables e below (T0.setTop (mkF m 22 #[.val (.int p0), .val (.int p1), .val (.int p2), .val (.int (Int32.ofNat nn)), .val (.int (Int32.ofNat rg)), .unset, .unset, .unset, .unset, .unset] [])) _
    refine XS.iconst X0.here hx rfl (own_hb hby at_22) ?_
    exact kt
  obtain ⟨T92, h92, X92, e92, E92, A92, st92⟩ := own_newP X0 hx hZ (hw _ (List.mem_of_getElem? (i := 0) rfl)) e0 (g := (mkF m 23 #[.val (.int p0), .val (.int p1), .val (.int p2), .val (.int (Int32.ofNat nn)), .val (.int (Int32.ofNat rg)), .unset, .unset, .unset, .unset, .unset] [(.int (4 : Int32))])) rfl (own_hb hby at_23) rfl (n := 4) (cap := 4) rfl (by decide) (by decide) (by decide) (by decide)
  obtain ⟨b92, g92⟩ : ∃ z, z = h0.size := ⟨_, rfl⟩
  rw [← g92] at A92 st92
  have gx92 : n0 ≤ b92 := Nat.le_trans Z0 (Nat.le_of_eq g92.symm)
  refine own_Go.of (S' := (T92.setTop (mkF m 25 #[.val (.int p0), .val (.int p1), .val (.int p2), .val (.int (Int32.ofNat nn)), .val (.int (Int32.ofNat rg)), .unset, .unset, .unset, .unset, .unset] [(.ref b92)]))) st92 ?_
  have z93 := Nat.le_trans Z0 E92.1
  have f94 : own_Ar Z h92 b92 .int 4 (own_I (own_N (fun _ => 0))) := A92
  refine own_Go.of (S' := (T92.setTop (mkF m 34 #[.val (.int p0), .val (.int p1), .val (.int p2), .val (.int (Int32.ofNat nn)), .val (.int (Int32.ofNat rg)), .val (.ref b92), .unset, .unset, .unset, .unset] [(.int (Int32.ofNat rg)), (.int (0 : Int32)), (.int p1), (.int (0 : Int32)), (.ref b92)]))) (fun t kt => ?_) ?_
  · show Steps p.tables e below (T92.setTop (mkF m 25 #[.val (.int p0), .val (.int p1), .val (.int p2), .val (.int (Int32.ofNat nn)), .val (.int (Int32.ofNat rg)), .unset, .unset, .unset, .unset, .unset] [(.ref b92)])) _
    refine XS.astore X92.here hx rfl (own_hb hby at_25) rfl rfl (l' := #[.val (.int p0), .val (.int p1), .val (.int p2), .val (.int (Int32.ofNat nn)), .val (.int (Int32.ofNat rg)), .val (.ref b92), .unset, .unset, .unset, .unset]) rfl ?_
    show Steps p.tables e below (T92.setTop (mkF m 27 #[.val (.int p0), .val (.int p1), .val (.int p2), .val (.int (Int32.ofNat nn)), .val (.int (Int32.ofNat rg)), .val (.ref b92), .unset, .unset, .unset, .unset] [])) _
    refine XS.aload X92.here hx rfl (own_hb hby at_27) rfl rfl ?_
    show Steps p.tables e below (T92.setTop (mkF m 29 #[.val (.int p0), .val (.int p1), .val (.int p2), .val (.int (Int32.ofNat nn)), .val (.int (Int32.ofNat rg)), .val (.ref b92), .unset, .unset, .unset, .unset] [(.ref b92)])) _
    refine XS.iconst X92.here hx rfl (own_hb hby at_29) ?_
    show Steps p.tables e below (T92.setTop (mkF m 30 #[.val (.int p0), .val (.int p1), .val (.int p2), .val (.int (Int32.ofNat nn)), .val (.int (Int32.ofNat rg)), .val (.ref b92), .unset, .unset, .unset, .unset] [(.int (0 : Int32)), (.ref b92)])) _
    refine XS.iloadN X92.here hx rfl (own_hb hby at_30) rfl ?_
    show Steps p.tables e below (T92.setTop (mkF m 31 #[.val (.int p0), .val (.int p1), .val (.int p2), .val (.int (Int32.ofNat nn)), .val (.int (Int32.ofNat rg)), .val (.ref b92), .unset, .unset, .unset, .unset] [(.int p1), (.int (0 : Int32)), (.ref b92)])) _
    refine XS.iconst X92.here hx rfl (own_hb hby at_31) ?_
    show Steps p.tables e below (T92.setTop (mkF m 32 #[.val (.int p0), .val (.int p1), .val (.int p2), .val (.int (Int32.ofNat nn)), .val (.int (Int32.ofNat rg)), .val (.ref b92), .unset, .unset, .unset, .unset] [(.int (0 : Int32)), (.int p1), (.int (0 : Int32)), (.ref b92)])) _
    refine XS.iload X92.here hx rfl (own_hb hby at_32) rfl ?_
    exact kt
  obtain ⟨_, _, ⟨T95, L95, k95, n95⟩, -, X95, ⟨Lc95, hQ95, l95, y95, z95⟩, st95⟩ := Jvm.LawKit.callS X92 hx (y := (⟨"com/example/sagasu/sagasu/CountingSortByKeyPinLaw", "key", "(III)I"⟩ : MethodName)) hown (mvT hZ (hw _ (List.mem_of_getElem? (i := 1) rfl))) (mvT hZ (hw _ (List.mem_of_getElem? (i := 2) rfl))) (mvT hZ (hw _ (List.mem_of_getElem? (i := 3) rfl))) (mvT hZ (hw _ (List.mem_of_getElem? (i := 4) rfl))) (by decide) (backOf (W := 2) (rm1 l Z a0 hw [] p1 (0 : Int32) rg h92 n0 z93 hrg) hZ (hw _ (List.mem_of_getElem? (i := 4) rfl)) (hw _ (List.mem_of_getElem? (i := 3) rfl)) (by decide) (by decide)) (g := (mkF m 34 #[.val (.int p0), .val (.int p1), .val (.int p2), .val (.int (Int32.ofNat nn)), .val (.int (Int32.ofNat rg)), .val (.ref b92), .unset, .unset, .unset, .unset] [(.int (Int32.ofNat rg)), (.int (0 : Int32)), (.int p1), (.int (0 : Int32)), (.ref b92)])) rfl (by rw [hml]; rfl) (argsL := [(.int p1), (.int (0 : Int32)), (.int (Int32.ofNat rg))]) (rest := [(.int (0 : Int32)), (.ref b92)]) (lenOf pd_3 rfl) rfl (by show 2 * 0 + _ ≤ _; exact Nat.le_of_eq rfl) (own_hb hby at_34) (fun _ _ => ⟨rfl, e92, (by decide : 1 + 0 ≤ _), (by decide : 4 + 0 ≤ _)⟩)
  dsimp only [Pt.U, Pt.locs, Pt.cells, Pt.slots] at X95 l95 y95 z95 st95 hQ95
  subst l95 y95 z95
  obtain ⟨kv95, rfl, N95q, hh95, p95_0⟩ := hQ95
  have N95 := Fr.app N0 N95q
  refine own_Go.of (S' := (T95.setTop (mkF m 37 #[.val (.int p0), .val (.int p1), .val (.int p2), .val (.int (Int32.ofNat nn)), .val (.int (Int32.ofNat rg)), .val (.ref b92), .unset, .unset, .unset, .unset] [(.int (Int32.ofNat kv95)), (.int (0 : Int32)), (.ref b92)]))) (fun t kt => st95 t kt) ?_
  obtain ⟨cl96, Ar96, hin96, ub96⟩ := own_Ar.put (j := (0 : Int32)) (k := 0) f94 ⟨rfl, by decide⟩
  obtain ⟨T96, h96, X96, e96, W96, st96⟩ := stI X95 hx hZ hh95 Ar96 (j := (0 : Int32)) hin96 (g := (mkF m 37 #[.val (.int p0), .val (.int p1), .val (.int p2), .val (.int (Int32.ofNat nn)), .val (.int (Int32.ofNat rg)), .val (.ref b92), .unset, .unset, .unset, .unset] [(.int (Int32.ofNat kv95)), (.int (0 : Int32)), (.ref b92)])) rfl rfl (own_hb hby at_37)
  refine own_Go.of (S' := (T96.setTop (mkF m 38 #[.val (.int p0), .val (.int p1), .val (.int p2), .val (.int (Int32.ofNat nn)), .val (.int (Int32.ofNat rg)), .val (.ref b92), .unset, .unset, .unset, .unset] []))) st96 ?_
  have z97 := Nat.le_trans z93 (Keep.of_wr W96).1
  have f98 : own_Ar Z h96 b92 .int 4 (own_I (own_N (own_ns (fun _ => 0) 0 kv95))) := by rw [← own_NI]; exact ub96 rfl W96
  have N96 := Fr.snoc X96 N95 gx92
  refine own_Go.of (S' := (T96.setTop (mkF m 45 #[.val (.int p0), .val (.int p1), .val (.int p2), .val (.int (Int32.ofNat nn)), .val (.int (Int32.ofNat rg)), .val (.ref b92), .unset, .unset, .unset, .unset] [(.int (Int32.ofNat rg)), (.int (1 : Int32)), (.int p1), (.int (1 : Int32)), (.ref b92)]))) (fun t kt => ?_) ?_
  · show Steps p.tables e below (T96.setTop (mkF m 38 #[.val (.int p0), .val (.int p1), .val (.int p2), .val (.int (Int32.ofNat nn)), .val (.int (Int32.ofNat rg)), .val (.ref b92), .unset, .unset, .unset, .unset] [])) _
    refine XS.aload X96.here hx rfl (own_hb hby at_38) rfl rfl ?_
    show Steps p.tables e below (T96.setTop (mkF m 40 #[.val (.int p0), .val (.int p1), .val (.int p2), .val (.int (Int32.ofNat nn)), .val (.int (Int32.ofNat rg)), .val (.ref b92), .unset, .unset, .unset, .unset] [(.ref b92)])) _
    refine XS.iconst X96.here hx rfl (own_hb hby at_40) ?_
    show Steps p.tables e below (T96.setTop (mkF m 41 #[.val (.int p0), .val (.int p1), .val (.int p2), .val (.int (Int32.ofNat nn)), .val (.int (Int32.ofNat rg)), .val (.ref b92), .unset, .unset, .unset, .unset] [(.int (1 : Int32)), (.ref b92)])) _
    refine XS.iloadN X96.here hx rfl (own_hb hby at_41) rfl ?_
    show Steps p.tables e below (T96.setTop (mkF m 42 #[.val (.int p0), .val (.int p1), .val (.int p2), .val (.int (Int32.ofNat nn)), .val (.int (Int32.ofNat rg)), .val (.ref b92), .unset, .unset, .unset, .unset] [(.int p1), (.int (1 : Int32)), (.ref b92)])) _
    refine XS.iconst X96.here hx rfl (own_hb hby at_42) ?_
    show Steps p.tables e below (T96.setTop (mkF m 43 #[.val (.int p0), .val (.int p1), .val (.int p2), .val (.int (Int32.ofNat nn)), .val (.int (Int32.ofNat rg)), .val (.ref b92), .unset, .unset, .unset, .unset] [(.int (1 : Int32)), (.int p1), (.int (1 : Int32)), (.ref b92)])) _
    refine XS.iload X96.here hx rfl (own_hb hby at_43) rfl ?_
    exact kt
  obtain ⟨_, _, ⟨T99, L99, k99, n99⟩, -, X99, ⟨Lc99, hQ99, l99, y99, z99⟩, st99⟩ := Jvm.LawKit.callS X96 hx (y := (⟨"com/example/sagasu/sagasu/CountingSortByKeyPinLaw", "key", "(III)I"⟩ : MethodName)) hown (mvT hZ (hw _ (List.mem_of_getElem? (i := 1) rfl))) (mvT hZ (hw _ (List.mem_of_getElem? (i := 2) rfl))) (mvT hZ (hw _ (List.mem_of_getElem? (i := 3) rfl))) (mvT hZ (hw _ (List.mem_of_getElem? (i := 4) rfl))) (by decide) (backOf (W := 2) (rm1 l Z a0 hw [] p1 (1 : Int32) rg h96 n0 z97 hrg) hZ (hw _ (List.mem_of_getElem? (i := 4) rfl)) (hw _ (List.mem_of_getElem? (i := 3) rfl)) (by decide) (by decide)) (g := (mkF m 45 #[.val (.int p0), .val (.int p1), .val (.int p2), .val (.int (Int32.ofNat nn)), .val (.int (Int32.ofNat rg)), .val (.ref b92), .unset, .unset, .unset, .unset] [(.int (Int32.ofNat rg)), (.int (1 : Int32)), (.int p1), (.int (1 : Int32)), (.ref b92)])) rfl (by rw [hml]; rfl) (argsL := [(.int p1), (.int (1 : Int32)), (.int (Int32.ofNat rg))]) (rest := [(.int (1 : Int32)), (.ref b92)]) (lenOf pd_3 rfl) rfl (by show 2 * 0 + _ ≤ _; exact Nat.le_of_eq rfl) (own_hb hby at_45) (fun _ _ => ⟨rfl, e96, (by decide : 1 + 0 ≤ _), (by decide : 4 + 0 ≤ _)⟩)
  dsimp only [Pt.U, Pt.locs, Pt.cells, Pt.slots] at X99 l99 y99 z99 st99 hQ99
  subst l99 y99 z99
  obtain ⟨kv99, rfl, N99q, hh99, p99_0⟩ := hQ99
  have N99 := Fr.app N96 N99q
  refine own_Go.of (S' := (T99.setTop (mkF m 48 #[.val (.int p0), .val (.int p1), .val (.int p2), .val (.int (Int32.ofNat nn)), .val (.int (Int32.ofNat rg)), .val (.ref b92), .unset, .unset, .unset, .unset] [(.int (Int32.ofNat kv99)), (.int (1 : Int32)), (.ref b92)]))) (fun t kt => st99 t kt) ?_
  obtain ⟨cl100, Ar100, hin100, ub100⟩ := own_Ar.put (j := (1 : Int32)) (k := 1) f98 ⟨rfl, by decide⟩
  obtain ⟨T100, h100, X100, e100, W100, st100⟩ := stI X99 hx hZ hh99 Ar100 (j := (1 : Int32)) hin100 (g := (mkF m 48 #[.val (.int p0), .val (.int p1), .val (.int p2), .val (.int (Int32.ofNat nn)), .val (.int (Int32.ofNat rg)), .val (.ref b92), .unset, .unset, .unset, .unset] [(.int (Int32.ofNat kv99)), (.int (1 : Int32)), (.ref b92)])) rfl rfl (own_hb hby at_48)
  refine own_Go.of (S' := (T100.setTop (mkF m 49 #[.val (.int p0), .val (.int p1), .val (.int p2), .val (.int (Int32.ofNat nn)), .val (.int (Int32.ofNat rg)), .val (.ref b92), .unset, .unset, .unset, .unset] []))) st100 ?_
  have z101 := Nat.le_trans z97 (Keep.of_wr W100).1
  have f102 : own_Ar Z h100 b92 .int 4 (own_I (own_N (own_ns (own_ns (fun _ => 0) 0 kv95) 1 kv99))) := by rw [← own_NI]; exact ub100 rfl W100
  have N100 := Fr.snoc X100 N99 gx92
  refine own_Go.of (S' := (T100.setTop (mkF m 56 #[.val (.int p0), .val (.int p1), .val (.int p2), .val (.int (Int32.ofNat nn)), .val (.int (Int32.ofNat rg)), .val (.ref b92), .unset, .unset, .unset, .unset] [(.int (Int32.ofNat rg)), (.int (2 : Int32)), (.int p1), (.int (2 : Int32)), (.ref b92)]))) (fun t kt => ?_) ?_
  · show Steps p.tables e below (T100.setTop (mkF m 49 #[.val (.int p0), .val (.int p1), .val (.int p2), .val (.int (Int32.ofNat nn)), .val (.int (Int32.ofNat rg)), .val (.ref b92), .unset, .unset, .unset, .unset] [])) _
    refine XS.aload X100.here hx rfl (own_hb hby at_49) rfl rfl ?_
    show Steps p.tables e below (T100.setTop (mkF m 51 #[.val (.int p0), .val (.int p1), .val (.int p2), .val (.int (Int32.ofNat nn)), .val (.int (Int32.ofNat rg)), .val (.ref b92), .unset, .unset, .unset, .unset] [(.ref b92)])) _
    refine XS.iconst X100.here hx rfl (own_hb hby at_51) ?_
    show Steps p.tables e below (T100.setTop (mkF m 52 #[.val (.int p0), .val (.int p1), .val (.int p2), .val (.int (Int32.ofNat nn)), .val (.int (Int32.ofNat rg)), .val (.ref b92), .unset, .unset, .unset, .unset] [(.int (2 : Int32)), (.ref b92)])) _
    refine XS.iloadN X100.here hx rfl (own_hb hby at_52) rfl ?_
    show Steps p.tables e below (T100.setTop (mkF m 53 #[.val (.int p0), .val (.int p1), .val (.int p2), .val (.int (Int32.ofNat nn)), .val (.int (Int32.ofNat rg)), .val (.ref b92), .unset, .unset, .unset, .unset] [(.int p1), (.int (2 : Int32)), (.ref b92)])) _
    refine XS.iconst X100.here hx rfl (own_hb hby at_53) ?_
    show Steps p.tables e below (T100.setTop (mkF m 54 #[.val (.int p0), .val (.int p1), .val (.int p2), .val (.int (Int32.ofNat nn)), .val (.int (Int32.ofNat rg)), .val (.ref b92), .unset, .unset, .unset, .unset] [(.int (2 : Int32)), (.int p1), (.int (2 : Int32)), (.ref b92)])) _
    refine XS.iload X100.here hx rfl (own_hb hby at_54) rfl ?_
    exact kt
  obtain ⟨_, _, ⟨T103, L103, k103, n103⟩, -, X103, ⟨Lc103, hQ103, l103, y103, z103⟩, st103⟩ := Jvm.LawKit.callS X100 hx (y := (⟨"com/example/sagasu/sagasu/CountingSortByKeyPinLaw", "key", "(III)I"⟩ : MethodName)) hown (mvT hZ (hw _ (List.mem_of_getElem? (i := 1) rfl))) (mvT hZ (hw _ (List.mem_of_getElem? (i := 2) rfl))) (mvT hZ (hw _ (List.mem_of_getElem? (i := 3) rfl))) (mvT hZ (hw _ (List.mem_of_getElem? (i := 4) rfl))) (by decide) (backOf (W := 2) (rm1 l Z a0 hw [] p1 (2 : Int32) rg h100 n0 z101 hrg) hZ (hw _ (List.mem_of_getElem? (i := 4) rfl)) (hw _ (List.mem_of_getElem? (i := 3) rfl)) (by decide) (by decide)) (g := (mkF m 56 #[.val (.int p0), .val (.int p1), .val (.int p2), .val (.int (Int32.ofNat nn)), .val (.int (Int32.ofNat rg)), .val (.ref b92), .unset, .unset, .unset, .unset] [(.int (Int32.ofNat rg)), (.int (2 : Int32)), (.int p1), (.int (2 : Int32)), (.ref b92)])) rfl (by rw [hml]; rfl) (argsL := [(.int p1), (.int (2 : Int32)), (.int (Int32.ofNat rg))]) (rest := [(.int (2 : Int32)), (.ref b92)]) (lenOf pd_3 rfl) rfl (by show 2 * 0 + _ ≤ _; exact Nat.le_of_eq rfl) (own_hb hby at_56) (fun _ _ => ⟨rfl, e100, (by decide : 1 + 0 ≤ _), (by decide : 4 + 0 ≤ _)⟩)
  dsimp only [Pt.U, Pt.locs, Pt.cells, Pt.slots] at X103 l103 y103 z103 st103 hQ103
  subst l103 y103 z103
  obtain ⟨kv103, rfl, N103q, hh103, p103_0⟩ := hQ103
  have N103 := Fr.app N100 N103q
  refine own_Go.of (S' := (T103.setTop (mkF m 59 #[.val (.int p0), .val (.int p1), .val (.int p2), .val (.int (Int32.ofNat nn)), .val (.int (Int32.ofNat rg)), .val (.ref b92), .unset, .unset, .unset, .unset] [(.int (Int32.ofNat kv103)), (.int (2 : Int32)), (.ref b92)]))) (fun t kt => st103 t kt) ?_
  obtain ⟨cl104, Ar104, hin104, ub104⟩ := own_Ar.put (j := (2 : Int32)) (k := 2) f102 ⟨rfl, by decide⟩
  obtain ⟨T104, h104, X104, e104, W104, st104⟩ := stI X103 hx hZ hh103 Ar104 (j := (2 : Int32)) hin104 (g := (mkF m 59 #[.val (.int p0), .val (.int p1), .val (.int p2), .val (.int (Int32.ofNat nn)), .val (.int (Int32.ofNat rg)), .val (.ref b92), .unset, .unset, .unset, .unset] [(.int (Int32.ofNat kv103)), (.int (2 : Int32)), (.ref b92)])) rfl rfl (own_hb hby at_59)
  refine own_Go.of (S' := (T104.setTop (mkF m 60 #[.val (.int p0), .val (.int p1), .val (.int p2), .val (.int (Int32.ofNat nn)), .val (.int (Int32.ofNat rg)), .val (.ref b92), .unset, .unset, .unset, .unset] []))) st104 ?_
  have z105 := Nat.le_trans z101 (Keep.of_wr W104).1
  have f106 : own_Ar Z h104 b92 .int 4 (own_I (own_N (own_ns (own_ns (own_ns (fun _ => 0) 0 kv95) 1 kv99) 2 kv103))) := by rw [← own_NI]; exact ub104 rfl W104
  have N104 := Fr.snoc X104 N103 gx92
  refine own_Go.of (S' := (T104.setTop (mkF m 67 #[.val (.int p0), .val (.int p1), .val (.int p2), .val (.int (Int32.ofNat nn)), .val (.int (Int32.ofNat rg)), .val (.ref b92), .unset, .unset, .unset, .unset] [(.int (Int32.ofNat rg)), (.int (3 : Int32)), (.int p1), (.int (3 : Int32)), (.ref b92)]))) (fun t kt => ?_) ?_
  · show Steps p.tables e below (T104.setTop (mkF m 60 #[.val (.int p0), .val (.int p1), .val (.int p2), .val (.int (Int32.ofNat nn)), .val (.int (Int32.ofNat rg)), .val (.ref b92), .unset, .unset, .unset, .unset] [])) _
    refine XS.aload X104.here hx rfl (own_hb hby at_60) rfl rfl ?_
    show Steps p.tables e below (T104.setTop (mkF m 62 #[.val (.int p0), .val (.int p1), .val (.int p2), .val (.int (Int32.ofNat nn)), .val (.int (Int32.ofNat rg)), .val (.ref b92), .unset, .unset, .unset, .unset] [(.ref b92)])) _
    refine XS.iconst X104.here hx rfl (own_hb hby at_62) ?_
    show Steps p.tables e below (T104.setTop (mkF m 63 #[.val (.int p0), .val (.int p1), .val (.int p2), .val (.int (Int32.ofNat nn)), .val (.int (Int32.ofNat rg)), .val (.ref b92), .unset, .unset, .unset, .unset] [(.int (3 : Int32)), (.ref b92)])) _
    refine XS.iloadN X104.here hx rfl (own_hb hby at_63) rfl ?_
    show Steps p.tables e below (T104.setTop (mkF m 64 #[.val (.int p0), .val (.int p1), .val (.int p2), .val (.int (Int32.ofNat nn)), .val (.int (Int32.ofNat rg)), .val (.ref b92), .unset, .unset, .unset, .unset] [(.int p1), (.int (3 : Int32)), (.ref b92)])) _
    refine XS.iconst X104.here hx rfl (own_hb hby at_64) ?_
    show Steps p.tables e below (T104.setTop (mkF m 65 #[.val (.int p0), .val (.int p1), .val (.int p2), .val (.int (Int32.ofNat nn)), .val (.int (Int32.ofNat rg)), .val (.ref b92), .unset, .unset, .unset, .unset] [(.int (3 : Int32)), (.int p1), (.int (3 : Int32)), (.ref b92)])) _
    refine XS.iload X104.here hx rfl (own_hb hby at_65) rfl ?_
    exact kt
  obtain ⟨_, _, ⟨T107, L107, k107, n107⟩, -, X107, ⟨Lc107, hQ107, l107, y107, z107⟩, st107⟩ := Jvm.LawKit.callS X104 hx (y := (⟨"com/example/sagasu/sagasu/CountingSortByKeyPinLaw", "key", "(III)I"⟩ : MethodName)) hown (mvT hZ (hw _ (List.mem_of_getElem? (i := 1) rfl))) (mvT hZ (hw _ (List.mem_of_getElem? (i := 2) rfl))) (mvT hZ (hw _ (List.mem_of_getElem? (i := 3) rfl))) (mvT hZ (hw _ (List.mem_of_getElem? (i := 4) rfl))) (by decide) (backOf (W := 2) (rm1 l Z a0 hw [] p1 (3 : Int32) rg h104 n0 z105 hrg) hZ (hw _ (List.mem_of_getElem? (i := 4) rfl)) (hw _ (List.mem_of_getElem? (i := 3) rfl)) (by decide) (by decide)) (g := (mkF m 67 #[.val (.int p0), .val (.int p1), .val (.int p2), .val (.int (Int32.ofNat nn)), .val (.int (Int32.ofNat rg)), .val (.ref b92), .unset, .unset, .unset, .unset] [(.int (Int32.ofNat rg)), (.int (3 : Int32)), (.int p1), (.int (3 : Int32)), (.ref b92)])) rfl (by rw [hml]; rfl) (argsL := [(.int p1), (.int (3 : Int32)), (.int (Int32.ofNat rg))]) (rest := [(.int (3 : Int32)), (.ref b92)]) (lenOf pd_3 rfl) rfl (by show 2 * 0 + _ ≤ _; exact Nat.le_of_eq rfl) (own_hb hby at_67) (fun _ _ => ⟨rfl, e104, (by decide : 1 + 0 ≤ _), (by decide : 4 + 0 ≤ _)⟩)
  dsimp only [Pt.U, Pt.locs, Pt.cells, Pt.slots] at X107 l107 y107 z107 st107 hQ107
  subst l107 y107 z107
  obtain ⟨kv107, rfl, N107q, hh107, p107_0⟩ := hQ107
  have N107 := Fr.app N104 N107q
  refine own_Go.of (S' := (T107.setTop (mkF m 70 #[.val (.int p0), .val (.int p1), .val (.int p2), .val (.int (Int32.ofNat nn)), .val (.int (Int32.ofNat rg)), .val (.ref b92), .unset, .unset, .unset, .unset] [(.int (Int32.ofNat kv107)), (.int (3 : Int32)), (.ref b92)]))) (fun t kt => st107 t kt) ?_
  obtain ⟨cl108, Ar108, hin108, ub108⟩ := own_Ar.put (j := (3 : Int32)) (k := 3) f106 ⟨rfl, by decide⟩
  obtain ⟨T108, h108, X108, e108, W108, st108⟩ := stI X107 hx hZ hh107 Ar108 (j := (3 : Int32)) hin108 (g := (mkF m 70 #[.val (.int p0), .val (.int p1), .val (.int p2), .val (.int (Int32.ofNat nn)), .val (.int (Int32.ofNat rg)), .val (.ref b92), .unset, .unset, .unset, .unset] [(.int (Int32.ofNat kv107)), (.int (3 : Int32)), (.ref b92)])) rfl rfl (own_hb hby at_70)
  refine own_Go.of (S' := (T108.setTop (mkF m 71 #[.val (.int p0), .val (.int p1), .val (.int p2), .val (.int (Int32.ofNat nn)), .val (.int (Int32.ofNat rg)), .val (.ref b92), .unset, .unset, .unset, .unset] []))) st108 ?_
  have z109 := Nat.le_trans z105 (Keep.of_wr W108).1
  have f110 : own_Ar Z h108 b92 .int 4 (own_I (own_N (own_ns (own_ns (own_ns (own_ns (fun _ => 0) 0 kv95) 1 kv99) 2 kv103) 3 kv107))) := by rw [← own_NI]; exact ub108 rfl W108
  have N108 := Fr.snoc X108 N107 gx92
  obtain ⟨kf, ekf⟩ : ∃ z, z = (own_ns (own_ns (own_ns (own_ns (fun _ => 0) 0 kv95) 1 kv99) 2 kv103) 3 kv107) := ⟨_, rfl⟩
  rw [← ekf] at f110
  have hkf : ∀ j, j < 4 → (rg = 0 ∧ kf j = 0) ∨ kf j < rg := by
    intro j hj
    subst ekf
    obtain rfl | rfl | rfl | rfl : j = 0 ∨ j = 1 ∨ j = 2 ∨ j = 3 := by omega
    · exact p95_0
    · exact p99_0
    · exact p103_0
    · exact p107_0
  clear ekf
  refine own_Go.of (S' := (T108.setTop (mkF m 72 #[.val (.int p0), .val (.int p1), .val (.int p2), .val (.int (Int32.ofNat nn)), .val (.int (Int32.ofNat rg)), .val (.ref b92), .unset, .unset, .unset, .unset] [(.int (4 : Int32))]))) (fun t kt => ?_) ?_
  · show Steps p.tables e below (T108.setTop (mkF m 71 #[.val (.int p0), .val (.int p1), .val (.int p2), .val (.int (Int32.ofNat nn)), .val (.int (Int32.ofNat rg)), .val (.ref b92), .unset, .unset, .unset, .unset] [])) _
    refine XS.iconst X108.here hx rfl (own_hb hby at_71) ?_
    exact kt
  obtain ⟨T111, h111, X111, e111, E111, A111, st111⟩ := own_newP X108 hx hZ (hw _ (List.mem_of_getElem? (i := 0) rfl)) e108 (g := (mkF m 72 #[.val (.int p0), .val (.int p1), .val (.int p2), .val (.int (Int32.ofNat nn)), .val (.int (Int32.ofNat rg)), .val (.ref b92), .unset, .unset, .unset, .unset] [(.int (4 : Int32))])) rfl (own_hb hby at_72) rfl (n := 4) (cap := 4) rfl (by decide) (by decide) (by decide) (by decide)
  obtain ⟨b111, g111⟩ : ∃ z, z = h108.size := ⟨_, rfl⟩
  rw [← g111] at A111 st111
  have gx111 : n0 ≤ b111 := Nat.le_trans z109 (Nat.le_of_eq g111.symm)
  have ne112 : b92 ≠ b111 := Nat.ne_of_lt (Nat.lt_of_lt_of_le f110.lt (Nat.le_of_eq g111.symm))
  refine own_Go.of (S' := (T111.setTop (mkF m 74 #[.val (.int p0), .val (.int p1), .val (.int p2), .val (.int (Int32.ofNat nn)), .val (.int (Int32.ofNat rg)), .val (.ref b92), .unset, .unset, .unset, .unset] [(.ref b111)]))) st111 ?_
  have f113 := f110.ext E111
  have z114 := Nat.le_trans z109 E111.1
  have f115 : own_Ar Z h111 b111 .int 4 (own_I (own_N (fun _ => 0))) := A111
  refine own_Go.of (S' := (T111.setTop (mkF m 82 #[.val (.int p0), .val (.int p1), .val (.int p2), .val (.int (Int32.ofNat nn)), .val (.int (Int32.ofNat rg)), .val (.ref b92), .val (.ref b111), .unset, .unset, .unset] [(.int (p2 &&& (3 : Int32))), (.int (0 : Int32)), (.ref b111)]))) (fun t kt => ?_) ?_
  · show Steps p.tables e below (T111.setTop (mkF m 74 #[.val (.int p0), .val (.int p1), .val (.int p2), .val (.int (Int32.ofNat nn)), .val (.int (Int32.ofNat rg)), .val (.ref b92), .unset, .unset, .unset, .unset] [(.ref b111)])) _
    refine XS.astore X111.here hx rfl (own_hb hby at_74) rfl rfl (l' := #[.val (.int p0), .val (.int p1), .val (.int p2), .val (.int (Int32.ofNat nn)), .val (.int (Int32.ofNat rg)), .val (.ref b92), .val (.ref b111), .unset, .unset, .unset]) rfl ?_
    show Steps p.tables e below (T111.setTop (mkF m 76 #[.val (.int p0), .val (.int p1), .val (.int p2), .val (.int (Int32.ofNat nn)), .val (.int (Int32.ofNat rg)), .val (.ref b92), .val (.ref b111), .unset, .unset, .unset] [])) _
    refine XS.aload X111.here hx rfl (own_hb hby at_76) rfl rfl ?_
    show Steps p.tables e below (T111.setTop (mkF m 78 #[.val (.int p0), .val (.int p1), .val (.int p2), .val (.int (Int32.ofNat nn)), .val (.int (Int32.ofNat rg)), .val (.ref b92), .val (.ref b111), .unset, .unset, .unset] [(.ref b111)])) _
    refine XS.iconst X111.here hx rfl (own_hb hby at_78) ?_
    show Steps p.tables e below (T111.setTop (mkF m 79 #[.val (.int p0), .val (.int p1), .val (.int p2), .val (.int (Int32.ofNat nn)), .val (.int (Int32.ofNat rg)), .val (.ref b92), .val (.ref b111), .unset, .unset, .unset] [(.int (0 : Int32)), (.ref b111)])) _
    refine XS.iloadN X111.here hx rfl (own_hb hby at_79) rfl ?_
    show Steps p.tables e below (T111.setTop (mkF m 80 #[.val (.int p0), .val (.int p1), .val (.int p2), .val (.int (Int32.ofNat nn)), .val (.int (Int32.ofNat rg)), .val (.ref b92), .val (.ref b111), .unset, .unset, .unset] [(.int p2), (.int (0 : Int32)), (.ref b111)])) _
    refine XS.iconst X111.here hx rfl (own_hb hby at_80) ?_
    show Steps p.tables e below (T111.setTop (mkF m 81 #[.val (.int p0), .val (.int p1), .val (.int p2), .val (.int (Int32.ofNat nn)), .val (.int (Int32.ofNat rg)), .val (.ref b92), .val (.ref b111), .unset, .unset, .unset] [(.int (3 : Int32)), (.int p2), (.int (0 : Int32)), (.ref b111)])) _
    refine XS.iand X111.here hx rfl (own_hb hby at_81) rfl ?_
    exact kt
  obtain ⟨mm0, hmm0, emm0⟩ : ∃ n : Nat, n ≤ 3 ∧ (p2 &&& (3 : Int32)) = Int32.ofNat n := own_mask _ 3
  refine own_Go.of (S' := (T111.setTop (mkF m 82 #[.val (.int p0), .val (.int p1), .val (.int p2), .val (.int (Int32.ofNat nn)), .val (.int (Int32.ofNat rg)), .val (.ref b92), .val (.ref b111), .unset, .unset, .unset] [(.int (Int32.ofNat mm0)), (.int (0 : Int32)), (.ref b111)]))) (fun t kt => ?_) ?_
  · show Steps p.tables e below (T111.setTop (mkF m 82 #[.val (.int p0), .val (.int p1), .val (.int p2), .val (.int (Int32.ofNat nn)), .val (.int (Int32.ofNat rg)), .val (.ref b92), .val (.ref b111), .unset, .unset, .unset] [(.int (p2 &&& (3 : Int32))), (.int (0 : Int32)), (.ref b111)])) _
    rw [emm0]
    exact kt
  obtain ⟨cl116, Ar116, hin116, ub116⟩ := own_Ar.put (j := (0 : Int32)) (k := 0) f115 ⟨rfl, by decide⟩
  obtain ⟨T116, h116, X116, e116, W116, st116⟩ := stI X111 hx hZ e111 Ar116 (j := (0 : Int32)) hin116 (g := (mkF m 82 #[.val (.int p0), .val (.int p1), .val (.int p2), .val (.int (Int32.ofNat nn)), .val (.int (Int32.ofNat rg)), .val (.ref b92), .val (.ref b111), .unset, .unset, .unset] [(.int (Int32.ofNat mm0)), (.int (0 : Int32)), (.ref b111)])) rfl rfl (own_hb hby at_82)
  refine own_Go.of (S' := (T116.setTop (mkF m 83 #[.val (.int p0), .val (.int p1), .val (.int p2), .val (.int (Int32.ofNat nn)), .val (.int (Int32.ofNat rg)), .val (.ref b92), .val (.ref b111), .unset, .unset, .unset] []))) st116 ?_
  have f117 := f113.other W116 ne112
  have z118 := Nat.le_trans z114 (Keep.of_wr W116).1
  have f119 : own_Ar Z h116 b111 .int 4 (own_I (own_N (own_ns (fun _ => 0) 0 mm0))) := by rw [← own_NI]; exact ub116 rfl W116
  have N116 := Fr.snoc X116 N108 gx111
  refine own_Go.of (S' := (T116.setTop (mkF m 91 #[.val (.int p0), .val (.int p1), .val (.int p2), .val (.int (Int32.ofNat nn)), .val (.int (Int32.ofNat rg)), .val (.ref b92), .val (.ref b111), .unset, .unset, .unset] [(.int (((p2.toUInt32 >>> ((2 : Int32) &&& 31).toUInt32).toInt32) &&& (3 : Int32))), (.int (1 : Int32)), (.ref b111)]))) (fun t kt => ?_) ?_
  · show Steps p.tables e below (T116.setTop (mkF m 83 #[.val (.int p0), .val (.int p1), .val (.int p2), .val (.int (Int32.ofNat nn)), .val (.int (Int32.ofNat rg)), .val (.ref b92), .val (.ref b111), .unset, .unset, .unset] [])) _
    refine XS.aload X116.here hx rfl (own_hb hby at_83) rfl rfl ?_
    show Steps p.tables e below (T116.setTop (mkF m 85 #[.val (.int p0), .val (.int p1), .val (.int p2), .val (.int (Int32.ofNat nn)), .val (.int (Int32.ofNat rg)), .val (.ref b92), .val (.ref b111), .unset, .unset, .unset] [(.ref b111)])) _
    refine XS.iconst X116.here hx rfl (own_hb hby at_85) ?_
    show Steps p.tables e below (T116.setTop (mkF m 86 #[.val (.int p0), .val (.int p1), .val (.int p2), .val (.int (Int32.ofNat nn)), .val (.int (Int32.ofNat rg)), .val (.ref b92), .val (.ref b111), .unset, .unset, .unset] [(.int (1 : Int32)), (.ref b111)])) _
    refine XS.iloadN X116.here hx rfl (own_hb hby at_86) rfl ?_
    show Steps p.tables e below (T116.setTop (mkF m 87 #[.val (.int p0), .val (.int p1), .val (.int p2), .val (.int (Int32.ofNat nn)), .val (.int (Int32.ofNat rg)), .val (.ref b92), .val (.ref b111), .unset, .unset, .unset] [(.int p2), (.int (1 : Int32)), (.ref b111)])) _
    refine XS.iconst X116.here hx rfl (own_hb hby at_87) ?_
    show Steps p.tables e below (T116.setTop (mkF m 88 #[.val (.int p0), .val (.int p1), .val (.int p2), .val (.int (Int32.ofNat nn)), .val (.int (Int32.ofNat rg)), .val (.ref b92), .val (.ref b111), .unset, .unset, .unset] [(.int (2 : Int32)), (.int p2), (.int (1 : Int32)), (.ref b111)])) _
    refine XS.iushr X116.here hx rfl (own_hb hby at_88) rfl ?_
    show Steps p.tables e below (T116.setTop (mkF m 89 #[.val (.int p0), .val (.int p1), .val (.int p2), .val (.int (Int32.ofNat nn)), .val (.int (Int32.ofNat rg)), .val (.ref b92), .val (.ref b111), .unset, .unset, .unset] [(.int ((p2.toUInt32 >>> ((2 : Int32) &&& 31).toUInt32).toInt32)), (.int (1 : Int32)), (.ref b111)])) _
    refine XS.iconst X116.here hx rfl (own_hb hby at_89) ?_
    show Steps p.tables e below (T116.setTop (mkF m 90 #[.val (.int p0), .val (.int p1), .val (.int p2), .val (.int (Int32.ofNat nn)), .val (.int (Int32.ofNat rg)), .val (.ref b92), .val (.ref b111), .unset, .unset, .unset] [(.int (3 : Int32)), (.int ((p2.toUInt32 >>> ((2 : Int32) &&& 31).toUInt32).toInt32)), (.int (1 : Int32)), (.ref b111)])) _
    refine XS.iand X116.here hx rfl (own_hb hby at_90) rfl ?_
    exact kt
  obtain ⟨mm1, hmm1, emm1⟩ : ∃ n : Nat, n ≤ 3 ∧ (((p2.toUInt32 >>> ((2 : Int32) &&& 31).toUInt32).toInt32) &&& (3 : Int32)) = Int32.ofNat n := own_mask _ 3
  refine own_Go.of (S' := (T116.setTop (mkF m 91 #[.val (.int p0), .val (.int p1), .val (.int p2), .val (.int (Int32.ofNat nn)), .val (.int (Int32.ofNat rg)), .val (.ref b92), .val (.ref b111), .unset, .unset, .unset] [(.int (Int32.ofNat mm1)), (.int (1 : Int32)), (.ref b111)]))) (fun t kt => ?_) ?_
  · show Steps p.tables e below (T116.setTop (mkF m 91 #[.val (.int p0), .val (.int p1), .val (.int p2), .val (.int (Int32.ofNat nn)), .val (.int (Int32.ofNat rg)), .val (.ref b92), .val (.ref b111), .unset, .unset, .unset] [(.int (((p2.toUInt32 >>> ((2 : Int32) &&& 31).toUInt32).toInt32) &&& (3 : Int32))), (.int (1 : Int32)), (.ref b111)])) _
    rw [emm1]
    exact kt
  obtain ⟨cl120, Ar120, hin120, ub120⟩ := own_Ar.put (j := (1 : Int32)) (k := 1) f119 ⟨rfl, by decide⟩
  obtain ⟨T120, h120, X120, e120, W120, st120⟩ := stI X116 hx hZ e116 Ar120 (j := (1 : Int32)) hin120 (g := (mkF m 91 #[.val (.int p0), .val (.int p1), .val (.int p2), .val (.int (Int32.ofNat nn)), .val (.int (Int32.ofNat rg)), .val (.ref b92), .val (.ref b111), .unset, .unset, .unset] [(.int (Int32.ofNat mm1)), (.int (1 : Int32)), (.ref b111)])) rfl rfl (own_hb hby at_91)
  refine own_Go.of (S' := (T120.setTop (mkF m 92 #[.val (.int p0), .val (.int p1), .val (.int p2), .val (.int (Int32.ofNat nn)), .val (.int (Int32.ofNat rg)), .val (.ref b92), .val (.ref b111), .unset, .unset, .unset] []))) st120 ?_
  have f121 := f117.other W120 ne112
  have z122 := Nat.le_trans z118 (Keep.of_wr W120).1
  have f123 : own_Ar Z h120 b111 .int 4 (own_I (own_N (own_ns (own_ns (fun _ => 0) 0 mm0) 1 mm1))) := by rw [← own_NI]; exact ub120 rfl W120
  have N120 := Fr.snoc X120 N116 gx111
  refine own_Go.of (S' := (T120.setTop (mkF m 100 #[.val (.int p0), .val (.int p1), .val (.int p2), .val (.int (Int32.ofNat nn)), .val (.int (Int32.ofNat rg)), .val (.ref b92), .val (.ref b111), .unset, .unset, .unset] [(.int (((p2.toUInt32 >>> ((4 : Int32) &&& 31).toUInt32).toInt32) &&& (3 : Int32))), (.int (2 : Int32)), (.ref b111)]))) (fun t kt => ?_) ?_
  · show Steps p.tables e below (T120.setTop (mkF m 92 #[.val (.int p0), .val (.int p1), .val (.int p2), .val (.int (Int32.ofNat nn)), .val (.int (Int32.ofNat rg)), .val (.ref b92), .val (.ref b111), .unset, .unset, .unset] [])) _
    refine XS.aload X120.here hx rfl (own_hb hby at_92) rfl rfl ?_
    show Steps p.tables e below (T120.setTop (mkF m 94 #[.val (.int p0), .val (.int p1), .val (.int p2), .val (.int (Int32.ofNat nn)), .val (.int (Int32.ofNat rg)), .val (.ref b92), .val (.ref b111), .unset, .unset, .unset] [(.ref b111)])) _
    refine XS.iconst X120.here hx rfl (own_hb hby at_94) ?_
    show Steps p.tables e below (T120.setTop (mkF m 95 #[.val (.int p0), .val (.int p1), .val (.int p2), .val (.int (Int32.ofNat nn)), .val (.int (Int32.ofNat rg)), .val (.ref b92), .val (.ref b111), .unset, .unset, .unset] [(.int (2 : Int32)), (.ref b111)])) _
    refine XS.iloadN X120.here hx rfl (own_hb hby at_95) rfl ?_
    show Steps p.tables e below (T120.setTop (mkF m 96 #[.val (.int p0), .val (.int p1), .val (.int p2), .val (.int (Int32.ofNat nn)), .val (.int (Int32.ofNat rg)), .val (.ref b92), .val (.ref b111), .unset, .unset, .unset] [(.int p2), (.int (2 : Int32)), (.ref b111)])) _
    refine XS.iconst X120.here hx rfl (own_hb hby at_96) ?_
    show Steps p.tables e below (T120.setTop (mkF m 97 #[.val (.int p0), .val (.int p1), .val (.int p2), .val (.int (Int32.ofNat nn)), .val (.int (Int32.ofNat rg)), .val (.ref b92), .val (.ref b111), .unset, .unset, .unset] [(.int (4 : Int32)), (.int p2), (.int (2 : Int32)), (.ref b111)])) _
    refine XS.iushr X120.here hx rfl (own_hb hby at_97) rfl ?_
    show Steps p.tables e below (T120.setTop (mkF m 98 #[.val (.int p0), .val (.int p1), .val (.int p2), .val (.int (Int32.ofNat nn)), .val (.int (Int32.ofNat rg)), .val (.ref b92), .val (.ref b111), .unset, .unset, .unset] [(.int ((p2.toUInt32 >>> ((4 : Int32) &&& 31).toUInt32).toInt32)), (.int (2 : Int32)), (.ref b111)])) _
    refine XS.iconst X120.here hx rfl (own_hb hby at_98) ?_
    show Steps p.tables e below (T120.setTop (mkF m 99 #[.val (.int p0), .val (.int p1), .val (.int p2), .val (.int (Int32.ofNat nn)), .val (.int (Int32.ofNat rg)), .val (.ref b92), .val (.ref b111), .unset, .unset, .unset] [(.int (3 : Int32)), (.int ((p2.toUInt32 >>> ((4 : Int32) &&& 31).toUInt32).toInt32)), (.int (2 : Int32)), (.ref b111)])) _
    refine XS.iand X120.here hx rfl (own_hb hby at_99) rfl ?_
    exact kt
  obtain ⟨mm2, hmm2, emm2⟩ : ∃ n : Nat, n ≤ 3 ∧ (((p2.toUInt32 >>> ((4 : Int32) &&& 31).toUInt32).toInt32) &&& (3 : Int32)) = Int32.ofNat n := own_mask _ 3
  refine own_Go.of (S' := (T120.setTop (mkF m 100 #[.val (.int p0), .val (.int p1), .val (.int p2), .val (.int (Int32.ofNat nn)), .val (.int (Int32.ofNat rg)), .val (.ref b92), .val (.ref b111), .unset, .unset, .unset] [(.int (Int32.ofNat mm2)), (.int (2 : Int32)), (.ref b111)]))) (fun t kt => ?_) ?_
  · show Steps p.tables e below (T120.setTop (mkF m 100 #[.val (.int p0), .val (.int p1), .val (.int p2), .val (.int (Int32.ofNat nn)), .val (.int (Int32.ofNat rg)), .val (.ref b92), .val (.ref b111), .unset, .unset, .unset] [(.int (((p2.toUInt32 >>> ((4 : Int32) &&& 31).toUInt32).toInt32) &&& (3 : Int32))), (.int (2 : Int32)), (.ref b111)])) _
    rw [emm2]
    exact kt
  obtain ⟨cl124, Ar124, hin124, ub124⟩ := own_Ar.put (j := (2 : Int32)) (k := 2) f123 ⟨rfl, by decide⟩
  obtain ⟨T124, h124, X124, e124, W124, st124⟩ := stI X120 hx hZ e120 Ar124 (j := (2 : Int32)) hin124 (g := (mkF m 100 #[.val (.int p0), .val (.int p1), .val (.int p2), .val (.int (Int32.ofNat nn)), .val (.int (Int32.ofNat rg)), .val (.ref b92), .val (.ref b111), .unset, .unset, .unset] [(.int (Int32.ofNat mm2)), (.int (2 : Int32)), (.ref b111)])) rfl rfl (own_hb hby at_100)
  refine own_Go.of (S' := (T124.setTop (mkF m 101 #[.val (.int p0), .val (.int p1), .val (.int p2), .val (.int (Int32.ofNat nn)), .val (.int (Int32.ofNat rg)), .val (.ref b92), .val (.ref b111), .unset, .unset, .unset] []))) st124 ?_
  have f125 := f121.other W124 ne112
  have z126 := Nat.le_trans z122 (Keep.of_wr W124).1
  have f127 : own_Ar Z h124 b111 .int 4 (own_I (own_N (own_ns (own_ns (own_ns (fun _ => 0) 0 mm0) 1 mm1) 2 mm2))) := by rw [← own_NI]; exact ub124 rfl W124
  have N124 := Fr.snoc X124 N120 gx111
  refine own_Go.of (S' := (T124.setTop (mkF m 110 #[.val (.int p0), .val (.int p1), .val (.int p2), .val (.int (Int32.ofNat nn)), .val (.int (Int32.ofNat rg)), .val (.ref b92), .val (.ref b111), .unset, .unset, .unset] [(.int (((p2.toUInt32 >>> ((6 : Int32) &&& 31).toUInt32).toInt32) &&& (3 : Int32))), (.int (3 : Int32)), (.ref b111)]))) (fun t kt => ?_) ?_
  · show Steps p.tables e below (T124.setTop (mkF m 101 #[.val (.int p0), .val (.int p1), .val (.int p2), .val (.int (Int32.ofNat nn)), .val (.int (Int32.ofNat rg)), .val (.ref b92), .val (.ref b111), .unset, .unset, .unset] [])) _
    refine XS.aload X124.here hx rfl (own_hb hby at_101) rfl rfl ?_
    show Steps p.tables e below (T124.setTop (mkF m 103 #[.val (.int p0), .val (.int p1), .val (.int p2), .val (.int (Int32.ofNat nn)), .val (.int (Int32.ofNat rg)), .val (.ref b92), .val (.ref b111), .unset, .unset, .unset] [(.ref b111)])) _
    refine XS.iconst X124.here hx rfl (own_hb hby at_103) ?_
    show Steps p.tables e below (T124.setTop (mkF m 104 #[.val (.int p0), .val (.int p1), .val (.int p2), .val (.int (Int32.ofNat nn)), .val (.int (Int32.ofNat rg)), .val (.ref b92), .val (.ref b111), .unset, .unset, .unset] [(.int (3 : Int32)), (.ref b111)])) _
    refine XS.iloadN X124.here hx rfl (own_hb hby at_104) rfl ?_
    show Steps p.tables e below (T124.setTop (mkF m 105 #[.val (.int p0), .val (.int p1), .val (.int p2), .val (.int (Int32.ofNat nn)), .val (.int (Int32.ofNat rg)), .val (.ref b92), .val (.ref b111), .unset, .unset, .unset] [(.int p2), (.int (3 : Int32)), (.ref b111)])) _
    refine XS.bipush X124.here hx rfl (own_hb hby at_105) ?_
    show Steps p.tables e below (T124.setTop (mkF m 107 #[.val (.int p0), .val (.int p1), .val (.int p2), .val (.int (Int32.ofNat nn)), .val (.int (Int32.ofNat rg)), .val (.ref b92), .val (.ref b111), .unset, .unset, .unset] [(.int (6 : Int32)), (.int p2), (.int (3 : Int32)), (.ref b111)])) _
    refine XS.iushr X124.here hx rfl (own_hb hby at_107) rfl ?_
    show Steps p.tables e below (T124.setTop (mkF m 108 #[.val (.int p0), .val (.int p1), .val (.int p2), .val (.int (Int32.ofNat nn)), .val (.int (Int32.ofNat rg)), .val (.ref b92), .val (.ref b111), .unset, .unset, .unset] [(.int ((p2.toUInt32 >>> ((6 : Int32) &&& 31).toUInt32).toInt32)), (.int (3 : Int32)), (.ref b111)])) _
    refine XS.iconst X124.here hx rfl (own_hb hby at_108) ?_
    show Steps p.tables e below (T124.setTop (mkF m 109 #[.val (.int p0), .val (.int p1), .val (.int p2), .val (.int (Int32.ofNat nn)), .val (.int (Int32.ofNat rg)), .val (.ref b92), .val (.ref b111), .unset, .unset, .unset] [(.int (3 : Int32)), (.int ((p2.toUInt32 >>> ((6 : Int32) &&& 31).toUInt32).toInt32)), (.int (3 : Int32)), (.ref b111)])) _
    refine XS.iand X124.here hx rfl (own_hb hby at_109) rfl ?_
    exact kt
  obtain ⟨mm3, hmm3, emm3⟩ : ∃ n : Nat, n ≤ 3 ∧ (((p2.toUInt32 >>> ((6 : Int32) &&& 31).toUInt32).toInt32) &&& (3 : Int32)) = Int32.ofNat n := own_mask _ 3
  refine own_Go.of (S' := (T124.setTop (mkF m 110 #[.val (.int p0), .val (.int p1), .val (.int p2), .val (.int (Int32.ofNat nn)), .val (.int (Int32.ofNat rg)), .val (.ref b92), .val (.ref b111), .unset, .unset, .unset] [(.int (Int32.ofNat mm3)), (.int (3 : Int32)), (.ref b111)]))) (fun t kt => ?_) ?_
  · show Steps p.tables e below (T124.setTop (mkF m 110 #[.val (.int p0), .val (.int p1), .val (.int p2), .val (.int (Int32.ofNat nn)), .val (.int (Int32.ofNat rg)), .val (.ref b92), .val (.ref b111), .unset, .unset, .unset] [(.int (((p2.toUInt32 >>> ((6 : Int32) &&& 31).toUInt32).toInt32) &&& (3 : Int32))), (.int (3 : Int32)), (.ref b111)])) _
    rw [emm3]
    exact kt
  obtain ⟨cl128, Ar128, hin128, ub128⟩ := own_Ar.put (j := (3 : Int32)) (k := 3) f127 ⟨rfl, by decide⟩
  obtain ⟨T128, h128, X128, e128, W128, st128⟩ := stI X124 hx hZ e124 Ar128 (j := (3 : Int32)) hin128 (g := (mkF m 110 #[.val (.int p0), .val (.int p1), .val (.int p2), .val (.int (Int32.ofNat nn)), .val (.int (Int32.ofNat rg)), .val (.ref b92), .val (.ref b111), .unset, .unset, .unset] [(.int (Int32.ofNat mm3)), (.int (3 : Int32)), (.ref b111)])) rfl rfl (own_hb hby at_110)
  refine own_Go.of (S' := (T128.setTop (mkF m 111 #[.val (.int p0), .val (.int p1), .val (.int p2), .val (.int (Int32.ofNat nn)), .val (.int (Int32.ofNat rg)), .val (.ref b92), .val (.ref b111), .unset, .unset, .unset] []))) st128 ?_
  have f129 := f125.other W128 ne112
  have z130 := Nat.le_trans z126 (Keep.of_wr W128).1
  have f131 : own_Ar Z h128 b111 .int 4 (own_I (own_N (own_ns (own_ns (own_ns (own_ns (fun _ => 0) 0 mm0) 1 mm1) 2 mm2) 3 mm3))) := by rw [← own_NI]; exact ub128 rfl W128
  have N128 := Fr.snoc X128 N124 gx111
  obtain ⟨gi, egi⟩ : ∃ z, z = (own_ns (own_ns (own_ns (own_ns (fun _ => 0) 0 mm0) 1 mm1) 2 mm2) 3 mm3) := ⟨_, rfl⟩
  rw [← egi] at f131
  have hgi : ∀ j, j < 4 → gi j < 4 := by
    intro j hj
    subst egi
    obtain rfl | rfl | rfl | rfl : j = 0 ∨ j = 1 ∨ j = 2 ∨ j = 3 := by omega
    · exact Nat.lt_succ_of_le hmm0
    · exact Nat.lt_succ_of_le hmm1
    · exact Nat.lt_succ_of_le hmm2
    · exact Nat.lt_succ_of_le hmm3
  clear egi
  refine own_Go.of (S' := (T128.setTop (mkF m 112 #[.val (.int p0), .val (.int p1), .val (.int p2), .val (.int (Int32.ofNat nn)), .val (.int (Int32.ofNat rg)), .val (.ref b92), .val (.ref b111), .unset, .unset, .unset] [(.int (4 : Int32))]))) (fun t kt => ?_) ?_
  · show Steps p.tables e below (T128.setTop (mkF m 111 #[.val (.int p0), .val (.int p1), .val (.int p2), .val (.int (Int32.ofNat nn)), .val (.int (Int32.ofNat rg)), .val (.ref b92), .val (.ref b111), .unset, .unset, .unset] [])) _
    refine XS.iconst X128.here hx rfl (own_hb hby at_111) ?_
    exact kt
  obtain ⟨T132, h132, X132, e132, E132, A132, st132⟩ := own_newP X128 hx hZ (hw _ (List.mem_of_getElem? (i := 0) rfl)) e128 (g := (mkF m 112 #[.val (.int p0), .val (.int p1), .val (.int p2), .val (.int (Int32.ofNat nn)), .val (.int (Int32.ofNat rg)), .val (.ref b92), .val (.ref b111), .unset, .unset, .unset] [(.int (4 : Int32))])) rfl (own_hb hby at_112) rfl (n := 4) (cap := 4) rfl (by decide) (by decide) (by decide) (by decide)
  obtain ⟨b132, g132⟩ : ∃ z, z = h128.size := ⟨_, rfl⟩
  rw [← g132] at A132 st132
  have gx132 : n0 ≤ b132 := Nat.le_trans z130 (Nat.le_of_eq g132.symm)
  have ne133 : b92 ≠ b132 := Nat.ne_of_lt (Nat.lt_of_lt_of_le f129.lt (Nat.le_of_eq g132.symm))
  have ne134 : b111 ≠ b132 := Nat.ne_of_lt (Nat.lt_of_lt_of_le f131.lt (Nat.le_of_eq g132.symm))
  refine own_Go.of (S' := (T132.setTop (mkF m 114 #[.val (.int p0), .val (.int p1), .val (.int p2), .val (.int (Int32.ofNat nn)), .val (.int (Int32.ofNat rg)), .val (.ref b92), .val (.ref b111), .unset, .unset, .unset] [(.ref b132)]))) st132 ?_
  have f135 := f129.ext E132
  have f136 := f131.ext E132
  have z137 := Nat.le_trans z130 E132.1
  have f138 : own_Ar Z h132 b132 .int 4 (own_I (own_N (fun _ => 0))) := A132
  refine own_Go.of (S' := (T132.setTop (mkF m 124 #[.val (.int p0), .val (.int p1), .val (.int p2), .val (.int (Int32.ofNat nn)), .val (.int (Int32.ofNat rg)), .val (.ref b92), .val (.ref b111), .val (.ref b132), .unset, .unset] [(.int (0 : Int32)), (.ref b111), (.ref b92), (.int (0 : Int32)), (.ref b132)]))) (fun t kt => ?_) ?_
  · show Steps p.tables e below (T132.setTop (mkF m 114 #[.val (.int p0), .val (.int p1), .val (.int p2), .val (.int (Int32.ofNat nn)), .val (.int (Int32.ofNat rg)), .val (.ref b92), .val (.ref b111), .unset, .unset, .unset] [(.ref b132)])) _
    refine XS.astore X132.here hx rfl (own_hb hby at_114) rfl rfl (l' := #[.val (.int p0), .val (.int p1), .val (.int p2), .val (.int (Int32.ofNat nn)), .val (.int (Int32.ofNat rg)), .val (.ref b92), .val (.ref b111), .val (.ref b132), .unset, .unset]) rfl ?_
    show Steps p.tables e below (T132.setTop (mkF m 116 #[.val (.int p0), .val (.int p1), .val (.int p2), .val (.int (Int32.ofNat nn)), .val (.int (Int32.ofNat rg)), .val (.ref b92), .val (.ref b111), .val (.ref b132), .unset, .unset] [])) _
    refine XS.aload X132.here hx rfl (own_hb hby at_116) rfl rfl ?_
    show Steps p.tables e below (T132.setTop (mkF m 118 #[.val (.int p0), .val (.int p1), .val (.int p2), .val (.int (Int32.ofNat nn)), .val (.int (Int32.ofNat rg)), .val (.ref b92), .val (.ref b111), .val (.ref b132), .unset, .unset] [(.ref b132)])) _
    refine XS.iconst X132.here hx rfl (own_hb hby at_118) ?_
    show Steps p.tables e below (T132.setTop (mkF m 119 #[.val (.int p0), .val (.int p1), .val (.int p2), .val (.int (Int32.ofNat nn)), .val (.int (Int32.ofNat rg)), .val (.ref b92), .val (.ref b111), .val (.ref b132), .unset, .unset] [(.int (0 : Int32)), (.ref b132)])) _
    refine XS.aload X132.here hx rfl (own_hb hby at_119) rfl rfl ?_
    show Steps p.tables e below (T132.setTop (mkF m 121 #[.val (.int p0), .val (.int p1), .val (.int p2), .val (.int (Int32.ofNat nn)), .val (.int (Int32.ofNat rg)), .val (.ref b92), .val (.ref b111), .val (.ref b132), .unset, .unset] [(.ref b92), (.int (0 : Int32)), (.ref b132)])) _
    refine XS.aload X132.here hx rfl (own_hb hby at_121) rfl rfl ?_
    show Steps p.tables e below (T132.setTop (mkF m 123 #[.val (.int p0), .val (.int p1), .val (.int p2), .val (.int (Int32.ofNat nn)), .val (.int (Int32.ofNat rg)), .val (.ref b92), .val (.ref b111), .val (.ref b132), .unset, .unset] [(.ref b111), (.ref b92), (.int (0 : Int32)), (.ref b132)])) _
    refine XS.iconst X132.here hx rfl (own_hb hby at_123) ?_
    exact kt
  obtain ⟨cl139, Ar139, hin139, hat139⟩ := own_Ar.get (j := (0 : Int32)) (k := 0) f136 ⟨rfl, by decide⟩
  refine own_Go.of (S' := (T132.setTop (mkF m 125 #[.val (.int p0), .val (.int p1), .val (.int p2), .val (.int (Int32.ofNat nn)), .val (.int (Int32.ofNat rg)), .val (.ref b92), .val (.ref b111), .val (.ref b132), .unset, .unset] [(.int (Int32.ofNat (gi 0))), (.ref b92), (.int (0 : Int32)), (.ref b132)]))) (fun t kt => ?_) ?_
  · show Steps p.tables e below (T132.setTop (mkF m 124 #[.val (.int p0), .val (.int p1), .val (.int p2), .val (.int (Int32.ofNat nn)), .val (.int (Int32.ofNat rg)), .val (.ref b92), .val (.ref b111), .val (.ref b132), .unset, .unset] [(.int (0 : Int32)), (.ref b111), (.ref b92), (.int (0 : Int32)), (.ref b132)])) _
    refine X132.iaload hx (j := (0 : Int32)) (v := (.int (Int32.ofNat (gi 0)))) (by rw [e132]; exact Ar139.1) (State.isArrayOf_alike hZ.alike Ar139.2.1) Ar139.2.2 hin139 hat139 (g := (mkF m 124 #[.val (.int p0), .val (.int p1), .val (.int p2), .val (.int (Int32.ofNat nn)), .val (.int (Int32.ofNat rg)), .val (.ref b92), .val (.ref b111), .val (.ref b132), .unset, .unset] [(.int (0 : Int32)), (.ref b111), (.ref b92), (.int (0 : Int32)), (.ref b132)])) rfl rfl (own_hb hby at_124) _ ?_
    exact kt
  obtain ⟨cl140, Ar140, hin140, hat140⟩ := own_Ar.get (j := (Int32.ofNat (gi 0))) (k := (gi 0)) f135 ⟨rfl, hgi 0 (by decide)⟩
  refine own_Go.of (S' := (T132.setTop (mkF m 126 #[.val (.int p0), .val (.int p1), .val (.int p2), .val (.int (Int32.ofNat nn)), .val (.int (Int32.ofNat rg)), .val (.ref b92), .val (.ref b111), .val (.ref b132), .unset, .unset] [(.int (Int32.ofNat (kf (gi 0)))), (.int (0 : Int32)), (.ref b132)]))) (fun t kt => ?_) ?_
  · show Steps p.tables e below (T132.setTop (mkF m 125 #[.val (.int p0), .val (.int p1), .val (.int p2), .val (.int (Int32.ofNat nn)), .val (.int (Int32.ofNat rg)), .val (.ref b92), .val (.ref b111), .val (.ref b132), .unset, .unset] [(.int (Int32.ofNat (gi 0))), (.ref b92), (.int (0 : Int32)), (.ref b132)])) _
    refine X132.iaload hx (j := (Int32.ofNat (gi 0))) (v := (.int (Int32.ofNat (kf (gi 0))))) (by rw [e132]; exact Ar140.1) (State.isArrayOf_alike hZ.alike Ar140.2.1) Ar140.2.2 hin140 hat140 (g := (mkF m 125 #[.val (.int p0), .val (.int p1), .val (.int p2), .val (.int (Int32.ofNat nn)), .val (.int (Int32.ofNat rg)), .val (.ref b92), .val (.ref b111), .val (.ref b132), .unset, .unset] [(.int (Int32.ofNat (gi 0))), (.ref b92), (.int (0 : Int32)), (.ref b132)])) rfl rfl (own_hb hby at_125) _ ?_
    exact kt
  obtain ⟨cl141, Ar141, hin141, ub141⟩ := own_Ar.put (j := (0 : Int32)) (k := 0) f138 ⟨rfl, by decide⟩
  obtain ⟨T141, h141, X141, e141, W141, st141⟩ := stI X132 hx hZ e132 Ar141 (j := (0 : Int32)) hin141 (g := (mkF m 126 #[.val (.int p0), .val (.int p1), .val (.int p2), .val (.int (Int32.ofNat nn)), .val (.int (Int32.ofNat rg)), .val (.ref b92), .val (.ref b111), .val (.ref b132), .unset, .unset] [(.int (Int32.ofNat (kf (gi 0)))), (.int (0 : Int32)), (.ref b132)])) rfl rfl (own_hb hby at_126)
  refine own_Go.of (S' := (T141.setTop (mkF m 127 #[.val (.int p0), .val (.int p1), .val (.int p2), .val (.int (Int32.ofNat nn)), .val (.int (Int32.ofNat rg)), .val (.ref b92), .val (.ref b111), .val (.ref b132), .unset, .unset] []))) st141 ?_
  have f142 := f135.other W141 ne133
  have f143 := f136.other W141 ne134
  have z144 := Nat.le_trans z137 (Keep.of_wr W141).1
  have f145 : own_Ar Z h141 b132 .int 4 (own_I (own_N (own_ns (fun _ => 0) 0 (kf (gi 0))))) := by rw [← own_NI]; exact ub141 rfl W141
  have N141 := Fr.snoc X141 N128 gx132
  refine own_Go.of (S' := (T141.setTop (mkF m 135 #[.val (.int p0), .val (.int p1), .val (.int p2), .val (.int (Int32.ofNat nn)), .val (.int (Int32.ofNat rg)), .val (.ref b92), .val (.ref b111), .val (.ref b132), .unset, .unset] [(.int (1 : Int32)), (.ref b111), (.ref b92), (.int (1 : Int32)), (.ref b132)]))) (fun t kt => ?_) ?_
  · show Steps p.tables e below (T141.setTop (mkF m 127 #[.val (.int p0), .val (.int p1), .val (.int p2), .val (.int (Int32.ofNat nn)), .val (.int (Int32.ofNat rg)), .val (.ref b92), .val (.ref b111), .val (.ref b132), .unset, .unset] [])) _
    refine XS.aload X141.here hx rfl (own_hb hby at_127) rfl rfl ?_
    show Steps p.tables e below (T141.setTop (mkF m 129 #[.val (.int p0), .val (.int p1), .val (.int p2), .val (.int (Int32.ofNat nn)), .val (.int (Int32.ofNat rg)), .val (.ref b92), .val (.ref b111), .val (.ref b132), .unset, .unset] [(.ref b132)])) _
    refine XS.iconst X141.here hx rfl (own_hb hby at_129) ?_
    show Steps p.tables e below (T141.setTop (mkF m 130 #[.val (.int p0), .val (.int p1), .val (.int p2), .val (.int (Int32.ofNat nn)), .val (.int (Int32.ofNat rg)), .val (.ref b92), .val (.ref b111), .val (.ref b132), .unset, .unset] [(.int (1 : Int32)), (.ref b132)])) _
    refine XS.aload X141.here hx rfl (own_hb hby at_130) rfl rfl ?_
    show Steps p.tables e below (T141.setTop (mkF m 132 #[.val (.int p0), .val (.int p1), .val (.int p2), .val (.int (Int32.ofNat nn)), .val (.int (Int32.ofNat rg)), .val (.ref b92), .val (.ref b111), .val (.ref b132), .unset, .unset] [(.ref b92), (.int (1 : Int32)), (.ref b132)])) _
    refine XS.aload X141.here hx rfl (own_hb hby at_132) rfl rfl ?_
    show Steps p.tables e below (T141.setTop (mkF m 134 #[.val (.int p0), .val (.int p1), .val (.int p2), .val (.int (Int32.ofNat nn)), .val (.int (Int32.ofNat rg)), .val (.ref b92), .val (.ref b111), .val (.ref b132), .unset, .unset] [(.ref b111), (.ref b92), (.int (1 : Int32)), (.ref b132)])) _
    refine XS.iconst X141.here hx rfl (own_hb hby at_134) ?_
    exact kt
  obtain ⟨cl146, Ar146, hin146, hat146⟩ := own_Ar.get (j := (1 : Int32)) (k := 1) f143 ⟨rfl, by decide⟩
  refine own_Go.of (S' := (T141.setTop (mkF m 136 #[.val (.int p0), .val (.int p1), .val (.int p2), .val (.int (Int32.ofNat nn)), .val (.int (Int32.ofNat rg)), .val (.ref b92), .val (.ref b111), .val (.ref b132), .unset, .unset] [(.int (Int32.ofNat (gi 1))), (.ref b92), (.int (1 : Int32)), (.ref b132)]))) (fun t kt => ?_) ?_
  · show Steps p.tables e below (T141.setTop (mkF m 135 #[.val (.int p0), .val (.int p1), .val (.int p2), .val (.int (Int32.ofNat nn)), .val (.int (Int32.ofNat rg)), .val (.ref b92), .val (.ref b111), .val (.ref b132), .unset, .unset] [(.int (1 : Int32)), (.ref b111), (.ref b92), (.int (1 : Int32)), (.ref b132)])) _
    refine X141.iaload hx (j := (1 : Int32)) (v := (.int (Int32.ofNat (gi 1)))) (by rw [e141]; exact Ar146.1) (State.isArrayOf_alike hZ.alike Ar146.2.1) Ar146.2.2 hin146 hat146 (g := (mkF m 135 #[.val (.int p0), .val (.int p1), .val (.int p2), .val (.int (Int32.ofNat nn)), .val (.int (Int32.ofNat rg)), .val (.ref b92), .val (.ref b111), .val (.ref b132), .unset, .unset] [(.int (1 : Int32)), (.ref b111), (.ref b92), (.int (1 : Int32)), (.ref b132)])) rfl rfl (own_hb hby at_135) _ ?_
    exact kt
  obtain ⟨cl147, Ar147, hin147, hat147⟩ := own_Ar.get (j := (Int32.ofNat (gi 1))) (k := (gi 1)) f142 ⟨rfl, hgi 1 (by decide)⟩
  refine own_Go.of (S' := (T141.setTop (mkF m 137 #[.val (.int p0), .val (.int p1), .val (.int p2), .val (.int (Int32.ofNat nn)), .val (.int (Int32.ofNat rg)), .val (.ref b92), .val (.ref b111), .val (.ref b132), .unset, .unset] [(.int (Int32.ofNat (kf (gi 1)))), (.int (1 : Int32)), (.ref b132)]))) (fun t kt => ?_) ?_
  · show Steps p.tables e below (T141.setTop (mkF m 136 #[.val (.int p0), .val (.int p1), .val (.int p2), .val (.int (Int32.ofNat nn)), .val (.int (Int32.ofNat rg)), .val (.ref b92), .val (.ref b111), .val (.ref b132), .unset, .unset] [(.int (Int32.ofNat (gi 1))), (.ref b92), (.int (1 : Int32)), (.ref b132)])) _
    refine X141.iaload hx (j := (Int32.ofNat (gi 1))) (v := (.int (Int32.ofNat (kf (gi 1))))) (by rw [e141]; exact Ar147.1) (State.isArrayOf_alike hZ.alike Ar147.2.1) Ar147.2.2 hin147 hat147 (g := (mkF m 136 #[.val (.int p0), .val (.int p1), .val (.int p2), .val (.int (Int32.ofNat nn)), .val (.int (Int32.ofNat rg)), .val (.ref b92), .val (.ref b111), .val (.ref b132), .unset, .unset] [(.int (Int32.ofNat (gi 1))), (.ref b92), (.int (1 : Int32)), (.ref b132)])) rfl rfl (own_hb hby at_136) _ ?_
    exact kt
  obtain ⟨cl148, Ar148, hin148, ub148⟩ := own_Ar.put (j := (1 : Int32)) (k := 1) f145 ⟨rfl, by decide⟩
  obtain ⟨T148, h148, X148, e148, W148, st148⟩ := stI X141 hx hZ e141 Ar148 (j := (1 : Int32)) hin148 (g := (mkF m 137 #[.val (.int p0), .val (.int p1), .val (.int p2), .val (.int (Int32.ofNat nn)), .val (.int (Int32.ofNat rg)), .val (.ref b92), .val (.ref b111), .val (.ref b132), .unset, .unset] [(.int (Int32.ofNat (kf (gi 1)))), (.int (1 : Int32)), (.ref b132)])) rfl rfl (own_hb hby at_137)
  refine own_Go.of (S' := (T148.setTop (mkF m 138 #[.val (.int p0), .val (.int p1), .val (.int p2), .val (.int (Int32.ofNat nn)), .val (.int (Int32.ofNat rg)), .val (.ref b92), .val (.ref b111), .val (.ref b132), .unset, .unset] []))) st148 ?_
  have f149 := f142.other W148 ne133
  have f150 := f143.other W148 ne134
  have z151 := Nat.le_trans z144 (Keep.of_wr W148).1
  have f152 : own_Ar Z h148 b132 .int 4 (own_I (own_N (own_ns (own_ns (fun _ => 0) 0 (kf (gi 0))) 1 (kf (gi 1))))) := by rw [← own_NI]; exact ub148 rfl W148
  have N148 := Fr.snoc X148 N141 gx132
  refine own_Go.of (S' := (T148.setTop (mkF m 146 #[.val (.int p0), .val (.int p1), .val (.int p2), .val (.int (Int32.ofNat nn)), .val (.int (Int32.ofNat rg)), .val (.ref b92), .val (.ref b111), .val (.ref b132), .unset, .unset] [(.int (2 : Int32)), (.ref b111), (.ref b92), (.int (2 : Int32)), (.ref b132)]))) (fun t kt => ?_) ?_
  · show Steps p.tables e below (T148.setTop (mkF m 138 #[.val (.int p0), .val (.int p1), .val (.int p2), .val (.int (Int32.ofNat nn)), .val (.int (Int32.ofNat rg)), .val (.ref b92), .val (.ref b111), .val (.ref b132), .unset, .unset] [])) _
    refine XS.aload X148.here hx rfl (own_hb hby at_138) rfl rfl ?_
    show Steps p.tables e below (T148.setTop (mkF m 140 #[.val (.int p0), .val (.int p1), .val (.int p2), .val (.int (Int32.ofNat nn)), .val (.int (Int32.ofNat rg)), .val (.ref b92), .val (.ref b111), .val (.ref b132), .unset, .unset] [(.ref b132)])) _
    refine XS.iconst X148.here hx rfl (own_hb hby at_140) ?_
    show Steps p.tables e below (T148.setTop (mkF m 141 #[.val (.int p0), .val (.int p1), .val (.int p2), .val (.int (Int32.ofNat nn)), .val (.int (Int32.ofNat rg)), .val (.ref b92), .val (.ref b111), .val (.ref b132), .unset, .unset] [(.int (2 : Int32)), (.ref b132)])) _
    refine XS.aload X148.here hx rfl (own_hb hby at_141) rfl rfl ?_
    show Steps p.tables e below (T148.setTop (mkF m 143 #[.val (.int p0), .val (.int p1), .val (.int p2), .val (.int (Int32.ofNat nn)), .val (.int (Int32.ofNat rg)), .val (.ref b92), .val (.ref b111), .val (.ref b132), .unset, .unset] [(.ref b92), (.int (2 : Int32)), (.ref b132)])) _
    refine XS.aload X148.here hx rfl (own_hb hby at_143) rfl rfl ?_
    show Steps p.tables e below (T148.setTop (mkF m 145 #[.val (.int p0), .val (.int p1), .val (.int p2), .val (.int (Int32.ofNat nn)), .val (.int (Int32.ofNat rg)), .val (.ref b92), .val (.ref b111), .val (.ref b132), .unset, .unset] [(.ref b111), (.ref b92), (.int (2 : Int32)), (.ref b132)])) _
    refine XS.iconst X148.here hx rfl (own_hb hby at_145) ?_
    exact kt
  obtain ⟨cl153, Ar153, hin153, hat153⟩ := own_Ar.get (j := (2 : Int32)) (k := 2) f150 ⟨rfl, by decide⟩
  refine own_Go.of (S' := (T148.setTop (mkF m 147 #[.val (.int p0), .val (.int p1), .val (.int p2), .val (.int (Int32.ofNat nn)), .val (.int (Int32.ofNat rg)), .val (.ref b92), .val (.ref b111), .val (.ref b132), .unset, .unset] [(.int (Int32.ofNat (gi 2))), (.ref b92), (.int (2 : Int32)), (.ref b132)]))) (fun t kt => ?_) ?_
  · show Steps p.tables e below (T148.setTop (mkF m 146 #[.val (.int p0), .val (.int p1), .val (.int p2), .val (.int (Int32.ofNat nn)), .val (.int (Int32.ofNat rg)), .val (.ref b92), .val (.ref b111), .val (.ref b132), .unset, .unset] [(.int (2 : Int32)), (.ref b111), (.ref b92), (.int (2 : Int32)), (.ref b132)])) _
    refine X148.iaload hx (j := (2 : Int32)) (v := (.int (Int32.ofNat (gi 2)))) (by rw [e148]; exact Ar153.1) (State.isArrayOf_alike hZ.alike Ar153.2.1) Ar153.2.2 hin153 hat153 (g := (mkF m 146 #[.val (.int p0), .val (.int p1), .val (.int p2), .val (.int (Int32.ofNat nn)), .val (.int (Int32.ofNat rg)), .val (.ref b92), .val (.ref b111), .val (.ref b132), .unset, .unset] [(.int (2 : Int32)), (.ref b111), (.ref b92), (.int (2 : Int32)), (.ref b132)])) rfl rfl (own_hb hby at_146) _ ?_
    exact kt
  obtain ⟨cl154, Ar154, hin154, hat154⟩ := own_Ar.get (j := (Int32.ofNat (gi 2))) (k := (gi 2)) f149 ⟨rfl, hgi 2 (by decide)⟩
  refine own_Go.of (S' := (T148.setTop (mkF m 148 #[.val (.int p0), .val (.int p1), .val (.int p2), .val (.int (Int32.ofNat nn)), .val (.int (Int32.ofNat rg)), .val (.ref b92), .val (.ref b111), .val (.ref b132), .unset, .unset] [(.int (Int32.ofNat (kf (gi 2)))), (.int (2 : Int32)), (.ref b132)]))) (fun t kt => ?_) ?_
  · show Steps p.tables e below (T148.setTop (mkF m 147 #[.val (.int p0), .val (.int p1), .val (.int p2), .val (.int (Int32.ofNat nn)), .val (.int (Int32.ofNat rg)), .val (.ref b92), .val (.ref b111), .val (.ref b132), .unset, .unset] [(.int (Int32.ofNat (gi 2))), (.ref b92), (.int (2 : Int32)), (.ref b132)])) _
    refine X148.iaload hx (j := (Int32.ofNat (gi 2))) (v := (.int (Int32.ofNat (kf (gi 2))))) (by rw [e148]; exact Ar154.1) (State.isArrayOf_alike hZ.alike Ar154.2.1) Ar154.2.2 hin154 hat154 (g := (mkF m 147 #[.val (.int p0), .val (.int p1), .val (.int p2), .val (.int (Int32.ofNat nn)), .val (.int (Int32.ofNat rg)), .val (.ref b92), .val (.ref b111), .val (.ref b132), .unset, .unset] [(.int (Int32.ofNat (gi 2))), (.ref b92), (.int (2 : Int32)), (.ref b132)])) rfl rfl (own_hb hby at_147) _ ?_
    exact kt
  obtain ⟨cl155, Ar155, hin155, ub155⟩ := own_Ar.put (j := (2 : Int32)) (k := 2) f152 ⟨rfl, by decide⟩
  obtain ⟨T155, h155, X155, e155, W155, st155⟩ := stI X148 hx hZ e148 Ar155 (j := (2 : Int32)) hin155 (g := (mkF m 148 #[.val (.int p0), .val (.int p1), .val (.int p2), .val (.int (Int32.ofNat nn)), .val (.int (Int32.ofNat rg)), .val (.ref b92), .val (.ref b111), .val (.ref b132), .unset, .unset] [(.int (Int32.ofNat (kf (gi 2)))), (.int (2 : Int32)), (.ref b132)])) rfl rfl (own_hb hby at_148)
  refine own_Go.of (S' := (T155.setTop (mkF m 149 #[.val (.int p0), .val (.int p1), .val (.int p2), .val (.int (Int32.ofNat nn)), .val (.int (Int32.ofNat rg)), .val (.ref b92), .val (.ref b111), .val (.ref b132), .unset, .unset] []))) st155 ?_
  have f156 := f149.other W155 ne133
  have f157 := f150.other W155 ne134
  have z158 := Nat.le_trans z151 (Keep.of_wr W155).1
  have f159 : own_Ar Z h155 b132 .int 4 (own_I (own_N (own_ns (own_ns (own_ns (fun _ => 0) 0 (kf (gi 0))) 1 (kf (gi 1))) 2 (kf (gi 2))))) := by rw [← own_NI]; exact ub155 rfl W155
  have N155 := Fr.snoc X155 N148 gx132
  refine own_Go.of (S' := (T155.setTop (mkF m 157 #[.val (.int p0), .val (.int p1), .val (.int p2), .val (.int (Int32.ofNat nn)), .val (.int (Int32.ofNat rg)), .val (.ref b92), .val (.ref b111), .val (.ref b132), .unset, .unset] [(.int (3 : Int32)), (.ref b111), (.ref b92), (.int (3 : Int32)), (.ref b132)]))) (fun t kt => ?_) ?_
  · show Steps p.tables e below (T155.setTop (mkF m 149 #[.val (.int p0), .val (.int p1), .val (.int p2), .val (.int (Int32.ofNat nn)), .val (.int (Int32.ofNat rg)), .val (.ref b92), .val (.ref b111), .val (.ref b132), .unset, .unset] [])) _
    refine XS.aload X155.here hx rfl (own_hb hby at_149) rfl rfl ?_
    show Steps p.tables e below (T155.setTop (mkF m 151 #[.val (.int p0), .val (.int p1), .val (.int p2), .val (.int (Int32.ofNat nn)), .val (.int (Int32.ofNat rg)), .val (.ref b92), .val (.ref b111), .val (.ref b132), .unset, .unset] [(.ref b132)])) _
    refine XS.iconst X155.here hx rfl (own_hb hby at_151) ?_
    show Steps p.tables e below (T155.setTop (mkF m 152 #[.val (.int p0), .val (.int p1), .val (.int p2), .val (.int (Int32.ofNat nn)), .val (.int (Int32.ofNat rg)), .val (.ref b92), .val (.ref b111), .val (.ref b132), .unset, .unset] [(.int (3 : Int32)), (.ref b132)])) _
    refine XS.aload X155.here hx rfl (own_hb hby at_152) rfl rfl ?_
    show Steps p.tables e below (T155.setTop (mkF m 154 #[.val (.int p0), .val (.int p1), .val (.int p2), .val (.int (Int32.ofNat nn)), .val (.int (Int32.ofNat rg)), .val (.ref b92), .val (.ref b111), .val (.ref b132), .unset, .unset] [(.ref b92), (.int (3 : Int32)), (.ref b132)])) _
    refine XS.aload X155.here hx rfl (own_hb hby at_154) rfl rfl ?_
    show Steps p.tables e below (T155.setTop (mkF m 156 #[.val (.int p0), .val (.int p1), .val (.int p2), .val (.int (Int32.ofNat nn)), .val (.int (Int32.ofNat rg)), .val (.ref b92), .val (.ref b111), .val (.ref b132), .unset, .unset] [(.ref b111), (.ref b92), (.int (3 : Int32)), (.ref b132)])) _
    refine XS.iconst X155.here hx rfl (own_hb hby at_156) ?_
    exact kt
  obtain ⟨cl160, Ar160, hin160, hat160⟩ := own_Ar.get (j := (3 : Int32)) (k := 3) f157 ⟨rfl, by decide⟩
  refine own_Go.of (S' := (T155.setTop (mkF m 158 #[.val (.int p0), .val (.int p1), .val (.int p2), .val (.int (Int32.ofNat nn)), .val (.int (Int32.ofNat rg)), .val (.ref b92), .val (.ref b111), .val (.ref b132), .unset, .unset] [(.int (Int32.ofNat (gi 3))), (.ref b92), (.int (3 : Int32)), (.ref b132)]))) (fun t kt => ?_) ?_
  · show Steps p.tables e below (T155.setTop (mkF m 157 #[.val (.int p0), .val (.int p1), .val (.int p2), .val (.int (Int32.ofNat nn)), .val (.int (Int32.ofNat rg)), .val (.ref b92), .val (.ref b111), .val (.ref b132), .unset, .unset] [(.int (3 : Int32)), (.ref b111), (.ref b92), (.int (3 : Int32)), (.ref b132)])) _
    refine X155.iaload hx (j := (3 : Int32)) (v := (.int (Int32.ofNat (gi 3)))) (by rw [e155]; exact Ar160.1) (State.isArrayOf_alike hZ.alike Ar160.2.1) Ar160.2.2 hin160 hat160 (g := (mkF m 157 #[.val (.int p0), .val (.int p1), .val (.int p2), .val (.int (Int32.ofNat nn)), .val (.int (Int32.ofNat rg)), .val (.ref b92), .val (.ref b111), .val (.ref b132), .unset, .unset] [(.int (3 : Int32)), (.ref b111), (.ref b92), (.int (3 : Int32)), (.ref b132)])) rfl rfl (own_hb hby at_157) _ ?_
    exact kt
  obtain ⟨cl161, Ar161, hin161, hat161⟩ := own_Ar.get (j := (Int32.ofNat (gi 3))) (k := (gi 3)) f156 ⟨rfl, hgi 3 (by decide)⟩
  refine own_Go.of (S' := (T155.setTop (mkF m 159 #[.val (.int p0), .val (.int p1), .val (.int p2), .val (.int (Int32.ofNat nn)), .val (.int (Int32.ofNat rg)), .val (.ref b92), .val (.ref b111), .val (.ref b132), .unset, .unset] [(.int (Int32.ofNat (kf (gi 3)))), (.int (3 : Int32)), (.ref b132)]))) (fun t kt => ?_) ?_
  · show Steps p.tables e below (T155.setTop (mkF m 158 #[.val (.int p0), .val (.int p1), .val (.int p2), .val (.int (Int32.ofNat nn)), .val (.int (Int32.ofNat rg)), .val (.ref b92), .val (.ref b111), .val (.ref b132), .unset, .unset] [(.int (Int32.ofNat (gi 3))), (.ref b92), (.int (3 : Int32)), (.ref b132)])) _
    refine X155.iaload hx (j := (Int32.ofNat (gi 3))) (v := (.int (Int32.ofNat (kf (gi 3))))) (by rw [e155]; exact Ar161.1) (State.isArrayOf_alike hZ.alike Ar161.2.1) Ar161.2.2 hin161 hat161 (g := (mkF m 158 #[.val (.int p0), .val (.int p1), .val (.int p2), .val (.int (Int32.ofNat nn)), .val (.int (Int32.ofNat rg)), .val (.ref b92), .val (.ref b111), .val (.ref b132), .unset, .unset] [(.int (Int32.ofNat (gi 3))), (.ref b92), (.int (3 : Int32)), (.ref b132)])) rfl rfl (own_hb hby at_158) _ ?_
    exact kt
  obtain ⟨cl162, Ar162, hin162, ub162⟩ := own_Ar.put (j := (3 : Int32)) (k := 3) f159 ⟨rfl, by decide⟩
  obtain ⟨T162, h162, X162, e162, W162, st162⟩ := stI X155 hx hZ e155 Ar162 (j := (3 : Int32)) hin162 (g := (mkF m 159 #[.val (.int p0), .val (.int p1), .val (.int p2), .val (.int (Int32.ofNat nn)), .val (.int (Int32.ofNat rg)), .val (.ref b92), .val (.ref b111), .val (.ref b132), .unset, .unset] [(.int (Int32.ofNat (kf (gi 3)))), (.int (3 : Int32)), (.ref b132)])) rfl rfl (own_hb hby at_159)
  refine own_Go.of (S' := (T162.setTop (mkF m 160 #[.val (.int p0), .val (.int p1), .val (.int p2), .val (.int (Int32.ofNat nn)), .val (.int (Int32.ofNat rg)), .val (.ref b92), .val (.ref b111), .val (.ref b132), .unset, .unset] []))) st162 ?_
  have f163 := f156.other W162 ne133
  have f164 := f157.other W162 ne134
  have z165 := Nat.le_trans z158 (Keep.of_wr W162).1
  have f166 : own_Ar Z h162 b132 .int 4 (own_I (own_N (own_ns (own_ns (own_ns (own_ns (fun _ => 0) 0 (kf (gi 0))) 1 (kf (gi 1))) 2 (kf (gi 2))) 3 (kf (gi 3))))) := by rw [← own_NI]; exact ub162 rfl W162
  have N162 := Fr.snoc X162 N155 gx132
  obtain ⟨kg, ekg⟩ : ∃ z, z = (own_ns (own_ns (own_ns (own_ns (fun _ => 0) 0 (kf (gi 0))) 1 (kf (gi 1))) 2 (kf (gi 2))) 3 (kf (gi 3))) := ⟨_, rfl⟩
  rw [← ekg] at f166
  have hkg : ∀ j, j < 4 → kg j = kf (gi j) := by
    intro j hj
    subst ekg
    obtain rfl | rfl | rfl | rfl : j = 0 ∨ j = 1 ∨ j = 2 ∨ j = 3 := by omega
    · rfl
    · rfl
    · rfl
    · rfl
  clear ekg
  refine own_Go.of (S' := (T162.setTop (mkF m 161 #[.val (.int p0), .val (.int p1), .val (.int p2), .val (.int (Int32.ofNat nn)), .val (.int (Int32.ofNat rg)), .val (.ref b92), .val (.ref b111), .val (.ref b132), .unset, .unset] [(.int (Int32.ofNat nn))]))) (fun t kt => ?_) ?_
  · show Steps p.tables e below (T162.setTop (mkF m 160 #[.val (.int p0), .val (.int p1), .val (.int p2), .val (.int (Int32.ofNat nn)), .val (.int (Int32.ofNat rg)), .val (.ref b92), .val (.ref b111), .val (.ref b132), .unset, .unset] [])) _
    refine XS.iloadN X162.here hx rfl (own_hb hby at_160) rfl ?_
    exact kt
  obtain ⟨T167, h167, X167, e167, E167, A167, st167⟩ := own_newP X162 hx hZ (hw _ (List.mem_of_getElem? (i := 0) rfl)) e162 (g := (mkF m 161 #[.val (.int p0), .val (.int p1), .val (.int p2), .val (.int (Int32.ofNat nn)), .val (.int (Int32.ofNat rg)), .val (.ref b92), .val (.ref b111), .val (.ref b132), .unset, .unset] [(.int (Int32.ofNat nn))])) rfl (own_hb hby at_161) rfl (n := nn) (cap := 4) rfl (by omega) (by decide) (by decide) (by decide)
  obtain ⟨b167, g167⟩ : ∃ z, z = h162.size := ⟨_, rfl⟩
  rw [← g167] at A167 st167
  have gx167 : n0 ≤ b167 := Nat.le_trans z165 (Nat.le_of_eq g167.symm)
  have ne168 : b92 ≠ b167 := Nat.ne_of_lt (Nat.lt_of_lt_of_le f163.lt (Nat.le_of_eq g167.symm))
  have ne169 : b111 ≠ b167 := Nat.ne_of_lt (Nat.lt_of_lt_of_le f164.lt (Nat.le_of_eq g167.symm))
  have ne170 : b132 ≠ b167 := Nat.ne_of_lt (Nat.lt_of_lt_of_le f166.lt (Nat.le_of_eq g167.symm))
  refine own_Go.of (S' := (T167.setTop (mkF m 163 #[.val (.int p0), .val (.int p1), .val (.int p2), .val (.int (Int32.ofNat nn)), .val (.int (Int32.ofNat rg)), .val (.ref b92), .val (.ref b111), .val (.ref b132), .unset, .unset] [(.ref b167)]))) st167 ?_
  have f171 := f163.ext E167
  have f172 := f164.ext E167
  have f173 := f166.ext E167
  have z174 := Nat.le_trans z165 E167.1
  have f175 : own_Ar Z h167 b167 .int nn (own_I (own_N (fun _ => 0))) := A167
  refine own_Go.of (S' := (T167.setTop (mkF m 166 #[.val (.int p0), .val (.int p1), .val (.int p2), .val (.int (Int32.ofNat nn)), .val (.int (Int32.ofNat rg)), .val (.ref b92), .val (.ref b111), .val (.ref b132), .val (.ref b167), .unset] [(.int (Int32.ofNat nn))]))) (fun t kt => ?_) ?_
  · show Steps p.tables e below (T167.setTop (mkF m 163 #[.val (.int p0), .val (.int p1), .val (.int p2), .val (.int (Int32.ofNat nn)), .val (.int (Int32.ofNat rg)), .val (.ref b92), .val (.ref b111), .val (.ref b132), .unset, .unset] [(.ref b167)])) _
    refine XS.astore X167.here hx rfl (own_hb hby at_163) rfl rfl (l' := #[.val (.int p0), .val (.int p1), .val (.int p2), .val (.int (Int32.ofNat nn)), .val (.int (Int32.ofNat rg)), .val (.ref b92), .val (.ref b111), .val (.ref b132), .val (.ref b167), .unset]) rfl ?_
    show Steps p.tables e below (T167.setTop (mkF m 165 #[.val (.int p0), .val (.int p1), .val (.int p2), .val (.int (Int32.ofNat nn)), .val (.int (Int32.ofNat rg)), .val (.ref b92), .val (.ref b111), .val (.ref b132), .val (.ref b167), .unset] [])) _
    refine XS.iloadN X167.here hx rfl (own_hb hby at_165) rfl ?_
    exact kt
  by_cases hc166_176 : 0 < nn
  · skip
    refine own_Go.of (S' := (T167.setTop (mkF m 175 #[.val (.int p0), .val (.int p1), .val (.int p2), .val (.int (Int32.ofNat nn)), .val (.int (Int32.ofNat rg)), .val (.ref b92), .val (.ref b111), .val (.ref b132), .val (.ref b167), .unset] [(.int (0 : Int32)), (.ref b111), (.int (0 : Int32)), (.ref b167)]))) (fun t kt => ?_) ?_
    · show Steps p.tables e below (T167.setTop (mkF m 166 #[.val (.int p0), .val (.int p1), .val (.int p2), .val (.int (Int32.ofNat nn)), .val (.int (Int32.ofNat rg)), .val (.ref b92), .val (.ref b111), .val (.ref b132), .val (.ref b167), .unset] [(.int (Int32.ofNat nn))])) _
      refine XS.ifNo X167.here hx rfl (own_hb hby at_166) rfl ((if0 _ _).trans (tlt ((own_ltN (by omega) (by omega)).mpr hc166_176)).2.2.2) ?_
      show Steps p.tables e below (T167.setTop (mkF m 169 #[.val (.int p0), .val (.int p1), .val (.int p2), .val (.int (Int32.ofNat nn)), .val (.int (Int32.ofNat rg)), .val (.ref b92), .val (.ref b111), .val (.ref b132), .val (.ref b167), .unset] [])) _
      refine XS.aload X167.here hx rfl (own_hb hby at_169) rfl rfl ?_
      show Steps p.tables e below (T167.setTop (mkF m 171 #[.val (.int p0), .val (.int p1), .val (.int p2), .val (.int (Int32.ofNat nn)), .val (.int (Int32.ofNat rg)), .val (.ref b92), .val (.ref b111), .val (.ref b132), .val (.ref b167), .unset] [(.ref b167)])) _
      refine XS.iconst X167.here hx rfl (own_hb hby at_171) ?_
      show Steps p.tables e below (T167.setTop (mkF m 172 #[.val (.int p0), .val (.int p1), .val (.int p2), .val (.int (Int32.ofNat nn)), .val (.int (Int32.ofNat rg)), .val (.ref b92), .val (.ref b111), .val (.ref b132), .val (.ref b167), .unset] [(.int (0 : Int32)), (.ref b167)])) _
      refine XS.aload X167.here hx rfl (own_hb hby at_172) rfl rfl ?_
      show Steps p.tables e below (T167.setTop (mkF m 174 #[.val (.int p0), .val (.int p1), .val (.int p2), .val (.int (Int32.ofNat nn)), .val (.int (Int32.ofNat rg)), .val (.ref b92), .val (.ref b111), .val (.ref b132), .val (.ref b167), .unset] [(.ref b111), (.int (0 : Int32)), (.ref b167)])) _
      refine XS.iconst X167.here hx rfl (own_hb hby at_174) ?_
      exact kt
    obtain ⟨cl177, Ar177, hin177, hat177⟩ := own_Ar.get (j := (0 : Int32)) (k := 0) f172 ⟨rfl, by decide⟩
    refine own_Go.of (S' := (T167.setTop (mkF m 176 #[.val (.int p0), .val (.int p1), .val (.int p2), .val (.int (Int32.ofNat nn)), .val (.int (Int32.ofNat rg)), .val (.ref b92), .val (.ref b111), .val (.ref b132), .val (.ref b167), .unset] [(.int (Int32.ofNat (gi 0))), (.int (0 : Int32)), (.ref b167)]))) (fun t kt => ?_) ?_
    · show Steps p.tables e below (T167.setTop (mkF m 175 #[.val (.int p0), .val (.int p1), .val (.int p2), .val (.int (Int32.ofNat nn)), .val (.int (Int32.ofNat rg)), .val (.ref b92), .val (.ref b111), .val (.ref b132), .val (.ref b167), .unset] [(.int (0 : Int32)), (.ref b111), (.int (0 : Int32)), (.ref b167)])) _
      refine X167.iaload hx (j := (0 : Int32)) (v := (.int (Int32.ofNat (gi 0)))) (by rw [e167]; exact Ar177.1) (State.isArrayOf_alike hZ.alike Ar177.2.1) Ar177.2.2 hin177 hat177 (g := (mkF m 175 #[.val (.int p0), .val (.int p1), .val (.int p2), .val (.int (Int32.ofNat nn)), .val (.int (Int32.ofNat rg)), .val (.ref b92), .val (.ref b111), .val (.ref b132), .val (.ref b167), .unset] [(.int (0 : Int32)), (.ref b111), (.int (0 : Int32)), (.ref b167)])) rfl rfl (own_hb hby at_175) _ ?_
      exact kt
    obtain ⟨cl178, Ar178, hin178, ub178⟩ := own_Ar.put (j := (0 : Int32)) (k := 0) f175 ⟨rfl, by omega⟩
    obtain ⟨T178, h178, X178, e178, W178, st178⟩ := stI X167 hx hZ e167 Ar178 (j := (0 : Int32)) hin178 (g := (mkF m 176 #[.val (.int p0), .val (.int p1), .val (.int p2), .val (.int (Int32.ofNat nn)), .val (.int (Int32.ofNat rg)), .val (.ref b92), .val (.ref b111), .val (.ref b132), .val (.ref b167), .unset] [(.int (Int32.ofNat (gi 0))), (.int (0 : Int32)), (.ref b167)])) rfl rfl (own_hb hby at_176)
    refine own_Go.of (S' := (T178.setTop (mkF m 177 #[.val (.int p0), .val (.int p1), .val (.int p2), .val (.int (Int32.ofNat nn)), .val (.int (Int32.ofNat rg)), .val (.ref b92), .val (.ref b111), .val (.ref b132), .val (.ref b167), .unset] []))) st178 ?_
    have f179 := f171.other W178 ne168
    have f180 := f172.other W178 ne169
    have f181 := f173.other W178 ne170
    have z182 := Nat.le_trans z174 (Keep.of_wr W178).1
    have f183 : own_Ar Z h178 b167 .int nn (own_I (own_N (own_ns (fun _ => 0) 0 (gi 0)))) := by rw [← own_NI]; exact ub178 rfl W178
    have N178 := Fr.snoc X178 N162 gx167
    refine own_Go.of (S' := (T178.setTop (mkF m 179 #[.val (.int p0), .val (.int p1), .val (.int p2), .val (.int (Int32.ofNat nn)), .val (.int (Int32.ofNat rg)), .val (.ref b92), .val (.ref b111), .val (.ref b132), .val (.ref b167), .unset] [(.int (1 : Int32)), (.int (Int32.ofNat nn))]))) (fun t kt => ?_) ?_
    · show Steps p.tables e below (T178.setTop (mkF m 177 #[.val (.int p0), .val (.int p1), .val (.int p2), .val (.int (Int32.ofNat nn)), .val (.int (Int32.ofNat rg)), .val (.ref b92), .val (.ref b111), .val (.ref b132), .val (.ref b167), .unset] [])) _
      refine XS.iloadN X178.here hx rfl (own_hb hby at_177) rfl ?_
      show Steps p.tables e below (T178.setTop (mkF m 178 #[.val (.int p0), .val (.int p1), .val (.int p2), .val (.int (Int32.ofNat nn)), .val (.int (Int32.ofNat rg)), .val (.ref b92), .val (.ref b111), .val (.ref b132), .val (.ref b167), .unset] [(.int (Int32.ofNat nn))])) _
      refine XS.iconst X178.here hx rfl (own_hb hby at_178) ?_
      exact kt
    by_cases hc179_184 : 1 < nn
    · skip
      refine own_Go.of (S' := (T178.setTop (mkF m 188 #[.val (.int p0), .val (.int p1), .val (.int p2), .val (.int (Int32.ofNat nn)), .val (.int (Int32.ofNat rg)), .val (.ref b92), .val (.ref b111), .val (.ref b132), .val (.ref b167), .unset] [(.int (1 : Int32)), (.ref b111), (.int (1 : Int32)), (.ref b167)]))) (fun t kt => ?_) ?_
      · show Steps p.tables e below (T178.setTop (mkF m 179 #[.val (.int p0), .val (.int p1), .val (.int p2), .val (.int (Int32.ofNat nn)), .val (.int (Int32.ofNat rg)), .val (.ref b92), .val (.ref b111), .val (.ref b132), .val (.ref b167), .unset] [(.int (1 : Int32)), (.int (Int32.ofNat nn))])) _
        refine XS.icmpNo X178.here hx rfl (own_hb hby at_179) rfl (tlt ((own_ltN (by omega) (by omega)).mpr hc179_184)).2.2.2 ?_
        show Steps p.tables e below (T178.setTop (mkF m 182 #[.val (.int p0), .val (.int p1), .val (.int p2), .val (.int (Int32.ofNat nn)), .val (.int (Int32.ofNat rg)), .val (.ref b92), .val (.ref b111), .val (.ref b132), .val (.ref b167), .unset] [])) _
        refine XS.aload X178.here hx rfl (own_hb hby at_182) rfl rfl ?_
        show Steps p.tables e below (T178.setTop (mkF m 184 #[.val (.int p0), .val (.int p1), .val (.int p2), .val (.int (Int32.ofNat nn)), .val (.int (Int32.ofNat rg)), .val (.ref b92), .val (.ref b111), .val (.ref b132), .val (.ref b167), .unset] [(.ref b167)])) _
        refine XS.iconst X178.here hx rfl (own_hb hby at_184) ?_
        show Steps p.tables e below (T178.setTop (mkF m 185 #[.val (.int p0), .val (.int p1), .val (.int p2), .val (.int (Int32.ofNat nn)), .val (.int (Int32.ofNat rg)), .val (.ref b92), .val (.ref b111), .val (.ref b132), .val (.ref b167), .unset] [(.int (1 : Int32)), (.ref b167)])) _
        refine XS.aload X178.here hx rfl (own_hb hby at_185) rfl rfl ?_
        show Steps p.tables e below (T178.setTop (mkF m 187 #[.val (.int p0), .val (.int p1), .val (.int p2), .val (.int (Int32.ofNat nn)), .val (.int (Int32.ofNat rg)), .val (.ref b92), .val (.ref b111), .val (.ref b132), .val (.ref b167), .unset] [(.ref b111), (.int (1 : Int32)), (.ref b167)])) _
        refine XS.iconst X178.here hx rfl (own_hb hby at_187) ?_
        exact kt
      obtain ⟨cl185, Ar185, hin185, hat185⟩ := own_Ar.get (j := (1 : Int32)) (k := 1) f180 ⟨rfl, by decide⟩
      refine own_Go.of (S' := (T178.setTop (mkF m 189 #[.val (.int p0), .val (.int p1), .val (.int p2), .val (.int (Int32.ofNat nn)), .val (.int (Int32.ofNat rg)), .val (.ref b92), .val (.ref b111), .val (.ref b132), .val (.ref b167), .unset] [(.int (Int32.ofNat (gi 1))), (.int (1 : Int32)), (.ref b167)]))) (fun t kt => ?_) ?_
      · show Steps p.tables e below (T178.setTop (mkF m 188 #[.val (.int p0), .val (.int p1), .val (.int p2), .val (.int (Int32.ofNat nn)), .val (.int (Int32.ofNat rg)), .val (.ref b92), .val (.ref b111), .val (.ref b132), .val (.ref b167), .unset] [(.int (1 : Int32)), (.ref b111), (.int (1 : Int32)), (.ref b167)])) _
        refine X178.iaload hx (j := (1 : Int32)) (v := (.int (Int32.ofNat (gi 1)))) (by rw [e178]; exact Ar185.1) (State.isArrayOf_alike hZ.alike Ar185.2.1) Ar185.2.2 hin185 hat185 (g := (mkF m 188 #[.val (.int p0), .val (.int p1), .val (.int p2), .val (.int (Int32.ofNat nn)), .val (.int (Int32.ofNat rg)), .val (.ref b92), .val (.ref b111), .val (.ref b132), .val (.ref b167), .unset] [(.int (1 : Int32)), (.ref b111), (.int (1 : Int32)), (.ref b167)])) rfl rfl (own_hb hby at_188) _ ?_
        exact kt
      obtain ⟨cl186, Ar186, hin186, ub186⟩ := own_Ar.put (j := (1 : Int32)) (k := 1) f183 ⟨rfl, by omega⟩
      obtain ⟨T186, h186, X186, e186, W186, st186⟩ := stI X178 hx hZ e178 Ar186 (j := (1 : Int32)) hin186 (g := (mkF m 189 #[.val (.int p0), .val (.int p1), .val (.int p2), .val (.int (Int32.ofNat nn)), .val (.int (Int32.ofNat rg)), .val (.ref b92), .val (.ref b111), .val (.ref b132), .val (.ref b167), .unset] [(.int (Int32.ofNat (gi 1))), (.int (1 : Int32)), (.ref b167)])) rfl rfl (own_hb hby at_189)
      refine own_Go.of (S' := (T186.setTop (mkF m 190 #[.val (.int p0), .val (.int p1), .val (.int p2), .val (.int (Int32.ofNat nn)), .val (.int (Int32.ofNat rg)), .val (.ref b92), .val (.ref b111), .val (.ref b132), .val (.ref b167), .unset] []))) st186 ?_
      have f187 := f179.other W186 ne168
      have f188 := f180.other W186 ne169
      have f189 := f181.other W186 ne170
      have z190 := Nat.le_trans z182 (Keep.of_wr W186).1
      have f191 : own_Ar Z h186 b167 .int nn (own_I (own_N (own_ns (own_ns (fun _ => 0) 0 (gi 0)) 1 (gi 1)))) := by rw [← own_NI]; exact ub186 rfl W186
      have N186 := Fr.snoc X186 N178 gx167
      refine own_Go.of (S' := (T186.setTop (mkF m 192 #[.val (.int p0), .val (.int p1), .val (.int p2), .val (.int (Int32.ofNat nn)), .val (.int (Int32.ofNat rg)), .val (.ref b92), .val (.ref b111), .val (.ref b132), .val (.ref b167), .unset] [(.int (2 : Int32)), (.int (Int32.ofNat nn))]))) (fun t kt => ?_) ?_
      · show Steps p.tables e below (T186.setTop (mkF m 190 #[.val (.int p0), .val (.int p1), .val (.int p2), .val (.int (Int32.ofNat nn)), .val (.int (Int32.ofNat rg)), .val (.ref b92), .val (.ref b111), .val (.ref b132), .val (.ref b167), .unset] [])) _
        refine XS.iloadN X186.here hx rfl (own_hb hby at_190) rfl ?_
        show Steps p.tables e below (T186.setTop (mkF m 191 #[.val (.int p0), .val (.int p1), .val (.int p2), .val (.int (Int32.ofNat nn)), .val (.int (Int32.ofNat rg)), .val (.ref b92), .val (.ref b111), .val (.ref b132), .val (.ref b167), .unset] [(.int (Int32.ofNat nn))])) _
        refine XS.iconst X186.here hx rfl (own_hb hby at_191) ?_
        exact kt
      by_cases hc192_192 : 2 < nn
      · skip
        refine own_Go.of (S' := (T186.setTop (mkF m 201 #[.val (.int p0), .val (.int p1), .val (.int p2), .val (.int (Int32.ofNat nn)), .val (.int (Int32.ofNat rg)), .val (.ref b92), .val (.ref b111), .val (.ref b132), .val (.ref b167), .unset] [(.int (2 : Int32)), (.ref b111), (.int (2 : Int32)), (.ref b167)]))) (fun t kt => ?_) ?_
        · show Steps p.tables e below (T186.setTop (mkF m 192 #[.val (.int p0), .val (.int p1), .val (.int p2), .val (.int (Int32.ofNat nn)), .val (.int (Int32.ofNat rg)), .val (.ref b92), .val (.ref b111), .val (.ref b132), .val (.ref b167), .unset] [(.int (2 : Int32)), (.int (Int32.ofNat nn))])) _
          refine XS.icmpNo X186.here hx rfl (own_hb hby at_192) rfl (tlt ((own_ltN (by omega) (by omega)).mpr hc192_192)).2.2.2 ?_
          show Steps p.tables e below (T186.setTop (mkF m 195 #[.val (.int p0), .val (.int p1), .val (.int p2), .val (.int (Int32.ofNat nn)), .val (.int (Int32.ofNat rg)), .val (.ref b92), .val (.ref b111), .val (.ref b132), .val (.ref b167), .unset] [])) _
          refine XS.aload X186.here hx rfl (own_hb hby at_195) rfl rfl ?_
          show Steps p.tables e below (T186.setTop (mkF m 197 #[.val (.int p0), .val (.int p1), .val (.int p2), .val (.int (Int32.ofNat nn)), .val (.int (Int32.ofNat rg)), .val (.ref b92), .val (.ref b111), .val (.ref b132), .val (.ref b167), .unset] [(.ref b167)])) _
          refine XS.iconst X186.here hx rfl (own_hb hby at_197) ?_
          show Steps p.tables e below (T186.setTop (mkF m 198 #[.val (.int p0), .val (.int p1), .val (.int p2), .val (.int (Int32.ofNat nn)), .val (.int (Int32.ofNat rg)), .val (.ref b92), .val (.ref b111), .val (.ref b132), .val (.ref b167), .unset] [(.int (2 : Int32)), (.ref b167)])) _
          refine XS.aload X186.here hx rfl (own_hb hby at_198) rfl rfl ?_
          show Steps p.tables e below (T186.setTop (mkF m 200 #[.val (.int p0), .val (.int p1), .val (.int p2), .val (.int (Int32.ofNat nn)), .val (.int (Int32.ofNat rg)), .val (.ref b92), .val (.ref b111), .val (.ref b132), .val (.ref b167), .unset] [(.ref b111), (.int (2 : Int32)), (.ref b167)])) _
          refine XS.iconst X186.here hx rfl (own_hb hby at_200) ?_
          exact kt
        obtain ⟨cl193, Ar193, hin193, hat193⟩ := own_Ar.get (j := (2 : Int32)) (k := 2) f188 ⟨rfl, by decide⟩
        refine own_Go.of (S' := (T186.setTop (mkF m 202 #[.val (.int p0), .val (.int p1), .val (.int p2), .val (.int (Int32.ofNat nn)), .val (.int (Int32.ofNat rg)), .val (.ref b92), .val (.ref b111), .val (.ref b132), .val (.ref b167), .unset] [(.int (Int32.ofNat (gi 2))), (.int (2 : Int32)), (.ref b167)]))) (fun t kt => ?_) ?_
        · show Steps p.tables e below (T186.setTop (mkF m 201 #[.val (.int p0), .val (.int p1), .val (.int p2), .val (.int (Int32.ofNat nn)), .val (.int (Int32.ofNat rg)), .val (.ref b92), .val (.ref b111), .val (.ref b132), .val (.ref b167), .unset] [(.int (2 : Int32)), (.ref b111), (.int (2 : Int32)), (.ref b167)])) _
          refine X186.iaload hx (j := (2 : Int32)) (v := (.int (Int32.ofNat (gi 2)))) (by rw [e186]; exact Ar193.1) (State.isArrayOf_alike hZ.alike Ar193.2.1) Ar193.2.2 hin193 hat193 (g := (mkF m 201 #[.val (.int p0), .val (.int p1), .val (.int p2), .val (.int (Int32.ofNat nn)), .val (.int (Int32.ofNat rg)), .val (.ref b92), .val (.ref b111), .val (.ref b132), .val (.ref b167), .unset] [(.int (2 : Int32)), (.ref b111), (.int (2 : Int32)), (.ref b167)])) rfl rfl (own_hb hby at_201) _ ?_
          exact kt
        obtain ⟨cl194, Ar194, hin194, ub194⟩ := own_Ar.put (j := (2 : Int32)) (k := 2) f191 ⟨rfl, by omega⟩
        obtain ⟨T194, h194, X194, e194, W194, st194⟩ := stI X186 hx hZ e186 Ar194 (j := (2 : Int32)) hin194 (g := (mkF m 202 #[.val (.int p0), .val (.int p1), .val (.int p2), .val (.int (Int32.ofNat nn)), .val (.int (Int32.ofNat rg)), .val (.ref b92), .val (.ref b111), .val (.ref b132), .val (.ref b167), .unset] [(.int (Int32.ofNat (gi 2))), (.int (2 : Int32)), (.ref b167)])) rfl rfl (own_hb hby at_202)
        refine own_Go.of (S' := (T194.setTop (mkF m 203 #[.val (.int p0), .val (.int p1), .val (.int p2), .val (.int (Int32.ofNat nn)), .val (.int (Int32.ofNat rg)), .val (.ref b92), .val (.ref b111), .val (.ref b132), .val (.ref b167), .unset] []))) st194 ?_
        have f195 := f187.other W194 ne168
        have f196 := f188.other W194 ne169
        have f197 := f189.other W194 ne170
        have z198 := Nat.le_trans z190 (Keep.of_wr W194).1
        have f199 : own_Ar Z h194 b167 .int nn (own_I (own_N (own_ns (own_ns (own_ns (fun _ => 0) 0 (gi 0)) 1 (gi 1)) 2 (gi 2)))) := by rw [← own_NI]; exact ub194 rfl W194
        have N194 := Fr.snoc X194 N186 gx167
        refine own_Go.of (S' := (T194.setTop (mkF m 205 #[.val (.int p0), .val (.int p1), .val (.int p2), .val (.int (Int32.ofNat nn)), .val (.int (Int32.ofNat rg)), .val (.ref b92), .val (.ref b111), .val (.ref b132), .val (.ref b167), .unset] [(.int (3 : Int32)), (.int (Int32.ofNat nn))]))) (fun t kt => ?_) ?_
        · show Steps p.tables e below (T194.setTop (mkF m 203 #[.val (.int p0), .val (.int p1), .val (.int p2), .val (.int (Int32.ofNat nn)), .val (.int (Int32.ofNat rg)), .val (.ref b92), .val (.ref b111), .val (.ref b132), .val (.ref b167), .unset] [])) _
          refine XS.iloadN X194.here hx rfl (own_hb hby at_203) rfl ?_
          show Steps p.tables e below (T194.setTop (mkF m 204 #[.val (.int p0), .val (.int p1), .val (.int p2), .val (.int (Int32.ofNat nn)), .val (.int (Int32.ofNat rg)), .val (.ref b92), .val (.ref b111), .val (.ref b132), .val (.ref b167), .unset] [(.int (Int32.ofNat nn))])) _
          refine XS.iconst X194.here hx rfl (own_hb hby at_204) ?_
          exact kt
        by_cases hc205_200 : 3 < nn
        · skip
          refine own_Go.of (S' := (T194.setTop (mkF m 214 #[.val (.int p0), .val (.int p1), .val (.int p2), .val (.int (Int32.ofNat nn)), .val (.int (Int32.ofNat rg)), .val (.ref b92), .val (.ref b111), .val (.ref b132), .val (.ref b167), .unset] [(.int (3 : Int32)), (.ref b111), (.int (3 : Int32)), (.ref b167)]))) (fun t kt => ?_) ?_
          · show Steps p.tables e below (T194.setTop (mkF m 205 #[.val (.int p0), .val (.int p1), .val (.int p2), .val (.int (Int32.ofNat nn)), .val (.int (Int32.ofNat rg)), .val (.ref b92), .val (.ref b111), .val (.ref b132), .val (.ref b167), .unset] [(.int (3 : Int32)), (.int (Int32.ofNat nn))])) _
            refine XS.icmpNo X194.here hx rfl (own_hb hby at_205) rfl (tlt ((own_ltN (by omega) (by omega)).mpr hc205_200)).2.2.2 ?_
            show Steps p.tables e below (T194.setTop (mkF m 208 #[.val (.int p0), .val (.int p1), .val (.int p2), .val (.int (Int32.ofNat nn)), .val (.int (Int32.ofNat rg)), .val (.ref b92), .val (.ref b111), .val (.ref b132), .val (.ref b167), .unset] [])) _
            refine XS.aload X194.here hx rfl (own_hb hby at_208) rfl rfl ?_
            show Steps p.tables e below (T194.setTop (mkF m 210 #[.val (.int p0), .val (.int p1), .val (.int p2), .val (.int (Int32.ofNat nn)), .val (.int (Int32.ofNat rg)), .val (.ref b92), .val (.ref b111), .val (.ref b132), .val (.ref b167), .unset] [(.ref b167)])) _
            refine XS.iconst X194.here hx rfl (own_hb hby at_210) ?_
            show Steps p.tables e below (T194.setTop (mkF m 211 #[.val (.int p0), .val (.int p1), .val (.int p2), .val (.int (Int32.ofNat nn)), .val (.int (Int32.ofNat rg)), .val (.ref b92), .val (.ref b111), .val (.ref b132), .val (.ref b167), .unset] [(.int (3 : Int32)), (.ref b167)])) _
            refine XS.aload X194.here hx rfl (own_hb hby at_211) rfl rfl ?_
            show Steps p.tables e below (T194.setTop (mkF m 213 #[.val (.int p0), .val (.int p1), .val (.int p2), .val (.int (Int32.ofNat nn)), .val (.int (Int32.ofNat rg)), .val (.ref b92), .val (.ref b111), .val (.ref b132), .val (.ref b167), .unset] [(.ref b111), (.int (3 : Int32)), (.ref b167)])) _
            refine XS.iconst X194.here hx rfl (own_hb hby at_213) ?_
            exact kt
          obtain ⟨cl201, Ar201, hin201, hat201⟩ := own_Ar.get (j := (3 : Int32)) (k := 3) f196 ⟨rfl, by decide⟩
          refine own_Go.of (S' := (T194.setTop (mkF m 215 #[.val (.int p0), .val (.int p1), .val (.int p2), .val (.int (Int32.ofNat nn)), .val (.int (Int32.ofNat rg)), .val (.ref b92), .val (.ref b111), .val (.ref b132), .val (.ref b167), .unset] [(.int (Int32.ofNat (gi 3))), (.int (3 : Int32)), (.ref b167)]))) (fun t kt => ?_) ?_
          · show Steps p.tables e below (T194.setTop (mkF m 214 #[.val (.int p0), .val (.int p1), .val (.int p2), .val (.int (Int32.ofNat nn)), .val (.int (Int32.ofNat rg)), .val (.ref b92), .val (.ref b111), .val (.ref b132), .val (.ref b167), .unset] [(.int (3 : Int32)), (.ref b111), (.int (3 : Int32)), (.ref b167)])) _
            refine X194.iaload hx (j := (3 : Int32)) (v := (.int (Int32.ofNat (gi 3)))) (by rw [e194]; exact Ar201.1) (State.isArrayOf_alike hZ.alike Ar201.2.1) Ar201.2.2 hin201 hat201 (g := (mkF m 214 #[.val (.int p0), .val (.int p1), .val (.int p2), .val (.int (Int32.ofNat nn)), .val (.int (Int32.ofNat rg)), .val (.ref b92), .val (.ref b111), .val (.ref b132), .val (.ref b167), .unset] [(.int (3 : Int32)), (.ref b111), (.int (3 : Int32)), (.ref b167)])) rfl rfl (own_hb hby at_214) _ ?_
            exact kt
          obtain ⟨cl202, Ar202, hin202, ub202⟩ := own_Ar.put (j := (3 : Int32)) (k := 3) f199 ⟨rfl, by omega⟩
          obtain ⟨T202, h202, X202, e202, W202, st202⟩ := stI X194 hx hZ e194 Ar202 (j := (3 : Int32)) hin202 (g := (mkF m 215 #[.val (.int p0), .val (.int p1), .val (.int p2), .val (.int (Int32.ofNat nn)), .val (.int (Int32.ofNat rg)), .val (.ref b92), .val (.ref b111), .val (.ref b132), .val (.ref b167), .unset] [(.int (Int32.ofNat (gi 3))), (.int (3 : Int32)), (.ref b167)])) rfl rfl (own_hb hby at_215)
          refine own_Go.of (S' := (T202.setTop (mkF m 216 #[.val (.int p0), .val (.int p1), .val (.int p2), .val (.int (Int32.ofNat nn)), .val (.int (Int32.ofNat rg)), .val (.ref b92), .val (.ref b111), .val (.ref b132), .val (.ref b167), .unset] []))) st202 ?_
          have f203 := f195.other W202 ne168
          have f204 := f196.other W202 ne169
          have f205 := f197.other W202 ne170
          have z206 := Nat.le_trans z198 (Keep.of_wr W202).1
          have f207 : own_Ar Z h202 b167 .int nn (own_I (own_N (own_ns (own_ns (own_ns (own_ns (fun _ => 0) 0 (gi 0)) 1 (gi 1)) 2 (gi 2)) 3 (gi 3)))) := by rw [← own_NI]; exact ub202 rfl W202
          have N202 := Fr.snoc X202 N194 gx167
          have f208 : own_Ar Z h202 b167 .int nn (own_I (own_N gi)) := f207.eqvI (fun j hj => by show Int32.ofNat _ = Int32.ofNat _; congr 1; first | omega | (obtain rfl | rfl | rfl | rfl : j = 0 ∨ j = 1 ∨ j = 2 ∨ j = 3 := by omega) <;> first | rfl | omega)
          exact tail0 hw hx hZ hby hml hret hlk hown hnm p0 p1 p2 h0 n0 nn rg b92 b111 b132 b167 kf gi kg (own_mono X202 (by decide) (by decide)) e202 N202 z206 hnn hrg hz hkf hgi hkg f203 f204 f205 f208
        · skip
          refine own_Go.of (S' := (T194.setTop (mkF m 216 #[.val (.int p0), .val (.int p1), .val (.int p2), .val (.int (Int32.ofNat nn)), .val (.int (Int32.ofNat rg)), .val (.ref b92), .val (.ref b111), .val (.ref b132), .val (.ref b167), .unset] []))) (fun t kt => ?_) ?_
          · show Steps p.tables e below (T194.setTop (mkF m 205 #[.val (.int p0), .val (.int p1), .val (.int p2), .val (.int (Int32.ofNat nn)), .val (.int (Int32.ofNat rg)), .val (.ref b92), .val (.ref b111), .val (.ref b132), .val (.ref b167), .unset] [(.int (3 : Int32)), (.int (Int32.ofNat nn))])) _
            refine XS.icmpYes X194.here hx rfl (pc0 := 205) (pc' := 216) rfl (own_hb hby at_205) rfl (flt (fun q => hc205_200 ((own_ltN (by omega) (by omega)).mp q))).2.2.2 (by decide) (by decide) ?_
            exact kt
          have f209 : own_Ar Z h194 b167 .int nn (own_I (own_N gi)) := f199.eqvI (fun j hj => by show Int32.ofNat _ = Int32.ofNat _; congr 1; first | omega | (obtain rfl | rfl | rfl | rfl : j = 0 ∨ j = 1 ∨ j = 2 ∨ j = 3 := by omega) <;> first | rfl | omega)
          exact tail0 hw hx hZ hby hml hret hlk hown hnm p0 p1 p2 h0 n0 nn rg b92 b111 b132 b167 kf gi kg (own_mono X194 (by decide) (by decide)) e194 N194 z198 hnn hrg hz hkf hgi hkg f195 f196 f197 f209
      · skip
        refine own_Go.of (S' := (T186.setTop (mkF m 205 #[.val (.int p0), .val (.int p1), .val (.int p2), .val (.int (Int32.ofNat nn)), .val (.int (Int32.ofNat rg)), .val (.ref b92), .val (.ref b111), .val (.ref b132), .val (.ref b167), .unset] [(.int (3 : Int32)), (.int (Int32.ofNat nn))]))) (fun t kt => ?_) ?_
        · show Steps p.tables e below (T186.setTop (mkF m 192 #[.val (.int p0), .val (.int p1), .val (.int p2), .val (.int (Int32.ofNat nn)), .val (.int (Int32.ofNat rg)), .val (.ref b92), .val (.ref b111), .val (.ref b132), .val (.ref b167), .unset] [(.int (2 : Int32)), (.int (Int32.ofNat nn))])) _
          refine XS.icmpYes X186.here hx rfl (pc0 := 192) (pc' := 203) rfl (own_hb hby at_192) rfl (flt (fun q => hc192_192 ((own_ltN (by omega) (by omega)).mp q))).2.2.2 (by decide) (by decide) ?_
          show Steps p.tables e below (T186.setTop (mkF m 203 #[.val (.int p0), .val (.int p1), .val (.int p2), .val (.int (Int32.ofNat nn)), .val (.int (Int32.ofNat rg)), .val (.ref b92), .val (.ref b111), .val (.ref b132), .val (.ref b167), .unset] [])) _
          refine XS.iloadN X186.here hx rfl (own_hb hby at_203) rfl ?_
          show Steps p.tables e below (T186.setTop (mkF m 204 #[.val (.int p0), .val (.int p1), .val (.int p2), .val (.int (Int32.ofNat nn)), .val (.int (Int32.ofNat rg)), .val (.ref b92), .val (.ref b111), .val (.ref b132), .val (.ref b167), .unset] [(.int (Int32.ofNat nn))])) _
          refine XS.iconst X186.here hx rfl (own_hb hby at_204) ?_
          exact kt
        by_cases hc205_210 : 3 < nn
        · skip
          refine own_Go.of (S' := (T186.setTop (mkF m 214 #[.val (.int p0), .val (.int p1), .val (.int p2), .val (.int (Int32.ofNat nn)), .val (.int (Int32.ofNat rg)), .val (.ref b92), .val (.ref b111), .val (.ref b132), .val (.ref b167), .unset] [(.int (3 : Int32)), (.ref b111), (.int (3 : Int32)), (.ref b167)]))) (fun t kt => ?_) ?_
          · show Steps p.tables e below (T186.setTop (mkF m 205 #[.val (.int p0), .val (.int p1), .val (.int p2), .val (.int (Int32.ofNat nn)), .val (.int (Int32.ofNat rg)), .val (.ref b92), .val (.ref b111), .val (.ref b132), .val (.ref b167), .unset] [(.int (3 : Int32)), (.int (Int32.ofNat nn))])) _
            refine XS.icmpNo X186.here hx rfl (own_hb hby at_205) rfl (tlt ((own_ltN (by omega) (by omega)).mpr hc205_210)).2.2.2 ?_
            show Steps p.tables e below (T186.setTop (mkF m 208 #[.val (.int p0), .val (.int p1), .val (.int p2), .val (.int (Int32.ofNat nn)), .val (.int (Int32.ofNat rg)), .val (.ref b92), .val (.ref b111), .val (.ref b132), .val (.ref b167), .unset] [])) _
            refine XS.aload X186.here hx rfl (own_hb hby at_208) rfl rfl ?_
            show Steps p.tables e below (T186.setTop (mkF m 210 #[.val (.int p0), .val (.int p1), .val (.int p2), .val (.int (Int32.ofNat nn)), .val (.int (Int32.ofNat rg)), .val (.ref b92), .val (.ref b111), .val (.ref b132), .val (.ref b167), .unset] [(.ref b167)])) _
            refine XS.iconst X186.here hx rfl (own_hb hby at_210) ?_
            show Steps p.tables e below (T186.setTop (mkF m 211 #[.val (.int p0), .val (.int p1), .val (.int p2), .val (.int (Int32.ofNat nn)), .val (.int (Int32.ofNat rg)), .val (.ref b92), .val (.ref b111), .val (.ref b132), .val (.ref b167), .unset] [(.int (3 : Int32)), (.ref b167)])) _
            refine XS.aload X186.here hx rfl (own_hb hby at_211) rfl rfl ?_
            show Steps p.tables e below (T186.setTop (mkF m 213 #[.val (.int p0), .val (.int p1), .val (.int p2), .val (.int (Int32.ofNat nn)), .val (.int (Int32.ofNat rg)), .val (.ref b92), .val (.ref b111), .val (.ref b132), .val (.ref b167), .unset] [(.ref b111), (.int (3 : Int32)), (.ref b167)])) _
            refine XS.iconst X186.here hx rfl (own_hb hby at_213) ?_
            exact kt
          obtain ⟨cl211, Ar211, hin211, hat211⟩ := own_Ar.get (j := (3 : Int32)) (k := 3) f188 ⟨rfl, by decide⟩
          refine own_Go.of (S' := (T186.setTop (mkF m 215 #[.val (.int p0), .val (.int p1), .val (.int p2), .val (.int (Int32.ofNat nn)), .val (.int (Int32.ofNat rg)), .val (.ref b92), .val (.ref b111), .val (.ref b132), .val (.ref b167), .unset] [(.int (Int32.ofNat (gi 3))), (.int (3 : Int32)), (.ref b167)]))) (fun t kt => ?_) ?_
          · show Steps p.tables e below (T186.setTop (mkF m 214 #[.val (.int p0), .val (.int p1), .val (.int p2), .val (.int (Int32.ofNat nn)), .val (.int (Int32.ofNat rg)), .val (.ref b92), .val (.ref b111), .val (.ref b132), .val (.ref b167), .unset] [(.int (3 : Int32)), (.ref b111), (.int (3 : Int32)), (.ref b167)])) _
            refine X186.iaload hx (j := (3 : Int32)) (v := (.int (Int32.ofNat (gi 3)))) (by rw [e186]; exact Ar211.1) (State.isArrayOf_alike hZ.alike Ar211.2.1) Ar211.2.2 hin211 hat211 (g := (mkF m 214 #[.val (.int p0), .val (.int p1), .val (.int p2), .val (.int (Int32.ofNat nn)), .val (.int (Int32.ofNat rg)), .val (.ref b92), .val (.ref b111), .val (.ref b132), .val (.ref b167), .unset] [(.int (3 : Int32)), (.ref b111), (.int (3 : Int32)), (.ref b167)])) rfl rfl (own_hb hby at_214) _ ?_
            exact kt
          obtain ⟨cl212, Ar212, hin212, ub212⟩ := own_Ar.put (j := (3 : Int32)) (k := 3) f191 ⟨rfl, by omega⟩
          obtain ⟨T212, h212, X212, e212, W212, st212⟩ := stI X186 hx hZ e186 Ar212 (j := (3 : Int32)) hin212 (g := (mkF m 215 #[.val (.int p0), .val (.int p1), .val (.int p2), .val (.int (Int32.ofNat nn)), .val (.int (Int32.ofNat rg)), .val (.ref b92), .val (.ref b111), .val (.ref b132), .val (.ref b167), .unset] [(.int (Int32.ofNat (gi 3))), (.int (3 : Int32)), (.ref b167)])) rfl rfl (own_hb hby at_215)
          refine own_Go.of (S' := (T212.setTop (mkF m 216 #[.val (.int p0), .val (.int p1), .val (.int p2), .val (.int (Int32.ofNat nn)), .val (.int (Int32.ofNat rg)), .val (.ref b92), .val (.ref b111), .val (.ref b132), .val (.ref b167), .unset] []))) st212 ?_
          have f213 := f187.other W212 ne168
          have f214 := f188.other W212 ne169
          have f215 := f189.other W212 ne170
          have z216 := Nat.le_trans z190 (Keep.of_wr W212).1
          have f217 : own_Ar Z h212 b167 .int nn (own_I (own_N (own_ns (own_ns (own_ns (fun _ => 0) 0 (gi 0)) 1 (gi 1)) 3 (gi 3)))) := by rw [← own_NI]; exact ub212 rfl W212
          have N212 := Fr.snoc X212 N186 gx167
          have f218 : own_Ar Z h212 b167 .int nn (own_I (own_N gi)) := f217.eqvI (fun j hj => by show Int32.ofNat _ = Int32.ofNat _; congr 1; first | omega | (obtain rfl | rfl | rfl | rfl : j = 0 ∨ j = 1 ∨ j = 2 ∨ j = 3 := by omega) <;> first | rfl | omega)
          exact tail0 hw hx hZ hby hml hret hlk hown hnm p0 p1 p2 h0 n0 nn rg b92 b111 b132 b167 kf gi kg (own_mono X212 (by decide) (by decide)) e212 N212 z216 hnn hrg hz hkf hgi hkg f213 f214 f215 f218
        · skip
          refine own_Go.of (S' := (T186.setTop (mkF m 216 #[.val (.int p0), .val (.int p1), .val (.int p2), .val (.int (Int32.ofNat nn)), .val (.int (Int32.ofNat rg)), .val (.ref b92), .val (.ref b111), .val (.ref b132), .val (.ref b167), .unset] []))) (fun t kt => ?_) ?_
          · show Steps p.tables e below (T186.setTop (mkF m 205 #[.val (.int p0), .val (.int p1), .val (.int p2), .val (.int (Int32.ofNat nn)), .val (.int (Int32.ofNat rg)), .val (.ref b92), .val (.ref b111), .val (.ref b132), .val (.ref b167), .unset] [(.int (3 : Int32)), (.int (Int32.ofNat nn))])) _
            refine XS.icmpYes X186.here hx rfl (pc0 := 205) (pc' := 216) rfl (own_hb hby at_205) rfl (flt (fun q => hc205_210 ((own_ltN (by omega) (by omega)).mp q))).2.2.2 (by decide) (by decide) ?_
            exact kt
          have f219 : own_Ar Z h186 b167 .int nn (own_I (own_N gi)) := f191.eqvI (fun j hj => by show Int32.ofNat _ = Int32.ofNat _; congr 1; first | omega | (obtain rfl | rfl | rfl | rfl : j = 0 ∨ j = 1 ∨ j = 2 ∨ j = 3 := by omega) <;> first | rfl | omega)
          exact tail0 hw hx hZ hby hml hret hlk hown hnm p0 p1 p2 h0 n0 nn rg b92 b111 b132 b167 kf gi kg (own_mono X186 (by decide) (by decide)) e186 N186 z190 hnn hrg hz hkf hgi hkg f187 f188 f189 f219
    · skip
      refine own_Go.of (S' := (T178.setTop (mkF m 192 #[.val (.int p0), .val (.int p1), .val (.int p2), .val (.int (Int32.ofNat nn)), .val (.int (Int32.ofNat rg)), .val (.ref b92), .val (.ref b111), .val (.ref b132), .val (.ref b167), .unset] [(.int (2 : Int32)), (.int (Int32.ofNat nn))]))) (fun t kt => ?_) ?_
      · show Steps p.tables e below (T178.setTop (mkF m 179 #[.val (.int p0), .val (.int p1), .val (.int p2), .val (.int (Int32.ofNat nn)), .val (.int (Int32.ofNat rg)), .val (.ref b92), .val (.ref b111), .val (.ref b132), .val (.ref b167), .unset] [(.int (1 : Int32)), (.int (Int32.ofNat nn))])) _
        refine XS.icmpYes X178.here hx rfl (pc0 := 179) (pc' := 190) rfl (own_hb hby at_179) rfl (flt (fun q => hc179_184 ((own_ltN (by omega) (by omega)).mp q))).2.2.2 (by decide) (by decide) ?_
        show Steps p.tables e below (T178.setTop (mkF m 190 #[.val (.int p0), .val (.int p1), .val (.int p2), .val (.int (Int32.ofNat nn)), .val (.int (Int32.ofNat rg)), .val (.ref b92), .val (.ref b111), .val (.ref b132), .val (.ref b167), .unset] [])) _
        refine XS.iloadN X178.here hx rfl (own_hb hby at_190) rfl ?_
        show Steps p.tables e below (T178.setTop (mkF m 191 #[.val (.int p0), .val (.int p1), .val (.int p2), .val (.int (Int32.ofNat nn)), .val (.int (Int32.ofNat rg)), .val (.ref b92), .val (.ref b111), .val (.ref b132), .val (.ref b167), .unset] [(.int (Int32.ofNat nn))])) _
        refine XS.iconst X178.here hx rfl (own_hb hby at_191) ?_
        exact kt
      by_cases hc192_220 : 2 < nn
      · skip
        refine own_Go.of (S' := (T178.setTop (mkF m 201 #[.val (.int p0), .val (.int p1), .val (.int p2), .val (.int (Int32.ofNat nn)), .val (.int (Int32.ofNat rg)), .val (.ref b92), .val (.ref b111), .val (.ref b132), .val (.ref b167), .unset] [(.int (2 : Int32)), (.ref b111), (.int (2 : Int32)), (.ref b167)]))) (fun t kt => ?_) ?_
        · show Steps p.tables e below (T178.setTop (mkF m 192 #[.val (.int p0), .val (.int p1), .val (.int p2), .val (.int (Int32.ofNat nn)), .val (.int (Int32.ofNat rg)), .val (.ref b92), .val (.ref b111), .val (.ref b132), .val (.ref b167), .unset] [(.int (2 : Int32)), (.int (Int32.ofNat nn))])) _
          refine XS.icmpNo X178.here hx rfl (own_hb hby at_192) rfl (tlt ((own_ltN (by omega) (by omega)).mpr hc192_220)).2.2.2 ?_
          show Steps p.tables e below (T178.setTop (mkF m 195 #[.val (.int p0), .val (.int p1), .val (.int p2), .val (.int (Int32.ofNat nn)), .val (.int (Int32.ofNat rg)), .val (.ref b92), .val (.ref b111), .val (.ref b132), .val (.ref b167), .unset] [])) _
          refine XS.aload X178.here hx rfl (own_hb hby at_195) rfl rfl ?_
          show Steps p.tables e below (T178.setTop (mkF m 197 #[.val (.int p0), .val (.int p1), .val (.int p2), .val (.int (Int32.ofNat nn)), .val (.int (Int32.ofNat rg)), .val (.ref b92), .val (.ref b111), .val (.ref b132), .val (.ref b167), .unset] [(.ref b167)])) _
          refine XS.iconst X178.here hx rfl (own_hb hby at_197) ?_
          show Steps p.tables e below (T178.setTop (mkF m 198 #[.val (.int p0), .val (.int p1), .val (.int p2), .val (.int (Int32.ofNat nn)), .val (.int (Int32.ofNat rg)), .val (.ref b92), .val (.ref b111), .val (.ref b132), .val (.ref b167), .unset] [(.int (2 : Int32)), (.ref b167)])) _
          refine XS.aload X178.here hx rfl (own_hb hby at_198) rfl rfl ?_
          show Steps p.tables e below (T178.setTop (mkF m 200 #[.val (.int p0), .val (.int p1), .val (.int p2), .val (.int (Int32.ofNat nn)), .val (.int (Int32.ofNat rg)), .val (.ref b92), .val (.ref b111), .val (.ref b132), .val (.ref b167), .unset] [(.ref b111), (.int (2 : Int32)), (.ref b167)])) _
          refine XS.iconst X178.here hx rfl (own_hb hby at_200) ?_
          exact kt
        obtain ⟨cl221, Ar221, hin221, hat221⟩ := own_Ar.get (j := (2 : Int32)) (k := 2) f180 ⟨rfl, by decide⟩
        refine own_Go.of (S' := (T178.setTop (mkF m 202 #[.val (.int p0), .val (.int p1), .val (.int p2), .val (.int (Int32.ofNat nn)), .val (.int (Int32.ofNat rg)), .val (.ref b92), .val (.ref b111), .val (.ref b132), .val (.ref b167), .unset] [(.int (Int32.ofNat (gi 2))), (.int (2 : Int32)), (.ref b167)]))) (fun t kt => ?_) ?_
        · show Steps p.tables e below (T178.setTop (mkF m 201 #[.val (.int p0), .val (.int p1), .val (.int p2), .val (.int (Int32.ofNat nn)), .val (.int (Int32.ofNat rg)), .val (.ref b92), .val (.ref b111), .val (.ref b132), .val (.ref b167), .unset] [(.int (2 : Int32)), (.ref b111), (.int (2 : Int32)), (.ref b167)])) _
          refine X178.iaload hx (j := (2 : Int32)) (v := (.int (Int32.ofNat (gi 2)))) (by rw [e178]; exact Ar221.1) (State.isArrayOf_alike hZ.alike Ar221.2.1) Ar221.2.2 hin221 hat221 (g := (mkF m 201 #[.val (.int p0), .val (.int p1), .val (.int p2), .val (.int (Int32.ofNat nn)), .val (.int (Int32.ofNat rg)), .val (.ref b92), .val (.ref b111), .val (.ref b132), .val (.ref b167), .unset] [(.int (2 : Int32)), (.ref b111), (.int (2 : Int32)), (.ref b167)])) rfl rfl (own_hb hby at_201) _ ?_
          exact kt
        obtain ⟨cl222, Ar222, hin222, ub222⟩ := own_Ar.put (j := (2 : Int32)) (k := 2) f183 ⟨rfl, by omega⟩
        obtain ⟨T222, h222, X222, e222, W222, st222⟩ := stI X178 hx hZ e178 Ar222 (j := (2 : Int32)) hin222 (g := (mkF m 202 #[.val (.int p0), .val (.int p1), .val (.int p2), .val (.int (Int32.ofNat nn)), .val (.int (Int32.ofNat rg)), .val (.ref b92), .val (.ref b111), .val (.ref b132), .val (.ref b167), .unset] [(.int (Int32.ofNat (gi 2))), (.int (2 : Int32)), (.ref b167)])) rfl rfl (own_hb hby at_202)
        refine own_Go.of (S' := (T222.setTop (mkF m 203 #[.val (.int p0), .val (.int p1), .val (.int p2), .val (.int (Int32.ofNat nn)), .val (.int (Int32.ofNat rg)), .val (.ref b92), .val (.ref b111), .val (.ref b132), .val (.ref b167), .unset] []))) st222 ?_
        have f223 := f179.other W222 ne168
        have f224 := f180.other W222 ne169
        have f225 := f181.other W222 ne170
        have z226 := Nat.le_trans z182 (Keep.of_wr W222).1
        have f227 : own_Ar Z h222 b167 .int nn (own_I (own_N (own_ns (own_ns (fun _ => 0) 0 (gi 0)) 2 (gi 2)))) := by rw [← own_NI]; exact ub222 rfl W222
        have N222 := Fr.snoc X222 N178 gx167
        refine own_Go.of (S' := (T222.setTop (mkF m 205 #[.val (.int p0), .val (.int p1), .val (.int p2), .val (.int (Int32.ofNat nn)), .val (.int (Int32.ofNat rg)), .val (.ref b92), .val (.ref b111), .val (.ref b132), .val (.ref b167), .unset] [(.int (3 : Int32)), (.int (Int32.ofNat nn))]))) (fun t kt => ?_) ?_
        · show Steps p.tables e below (T222.setTop (mkF m 203 #[.val (.int p0), .val (.int p1), .val (.int p2), .val (.int (Int32.ofNat nn)), .val (.int (Int32.ofNat rg)), .val (.ref b92), .val (.ref b111), .val (.ref b132), .val (.ref b167), .unset] [])) _
          refine XS.iloadN X222.here hx rfl (own_hb hby at_203) rfl ?_
          show Steps p.tables e below (T222.setTop (mkF m 204 #[.val (.int p0), .val (.int p1), .val (.int p2), .val (.int (Int32.ofNat nn)), .val (.int (Int32.ofNat rg)), .val (.ref b92), .val (.ref b111), .val (.ref b132), .val (.ref b167), .unset] [(.int (Int32.ofNat nn))])) _
          refine XS.iconst X222.here hx rfl (own_hb hby at_204) ?_
          exact kt
        by_cases hc205_228 : 3 < nn
        · skip
          refine own_Go.of (S' := (T222.setTop (mkF m 214 #[.val (.int p0), .val (.int p1), .val (.int p2), .val (.int (Int32.ofNat nn)), .val (.int (Int32.ofNat rg)), .val (.ref b92), .val (.ref b111), .val (.ref b132), .val (.ref b167), .unset] [(.int (3 : Int32)), (.ref b111), (.int (3 : Int32)), (.ref b167)]))) (fun t kt => ?_) ?_
          · show Steps p.tables e below (T222.setTop (mkF m 205 #[.val (.int p0), .val (.int p1), .val (.int p2), .val (.int (Int32.ofNat nn)), .val (.int (Int32.ofNat rg)), .val (.ref b92), .val (.ref b111), .val (.ref b132), .val (.ref b167), .unset] [(.int (3 : Int32)), (.int (Int32.ofNat nn))])) _
            refine XS.icmpNo X222.here hx rfl (own_hb hby at_205) rfl (tlt ((own_ltN (by omega) (by omega)).mpr hc205_228)).2.2.2 ?_
            show Steps p.tables e below (T222.setTop (mkF m 208 #[.val (.int p0), .val (.int p1), .val (.int p2), .val (.int (Int32.ofNat nn)), .val (.int (Int32.ofNat rg)), .val (.ref b92), .val (.ref b111), .val (.ref b132), .val (.ref b167), .unset] [])) _
            refine XS.aload X222.here hx rfl (own_hb hby at_208) rfl rfl ?_
            show Steps p.tables e below (T222.setTop (mkF m 210 #[.val (.int p0), .val (.int p1), .val (.int p2), .val (.int (Int32.ofNat nn)), .val (.int (Int32.ofNat rg)), .val (.ref b92), .val (.ref b111), .val (.ref b132), .val (.ref b167), .unset] [(.ref b167)])) _
            refine XS.iconst X222.here hx rfl (own_hb hby at_210) ?_
            show Steps p.tables e below (T222.setTop (mkF m 211 #[.val (.int p0), .val (.int p1), .val (.int p2), .val (.int (Int32.ofNat nn)), .val (.int (Int32.ofNat rg)), .val (.ref b92), .val (.ref b111), .val (.ref b132), .val (.ref b167), .unset] [(.int (3 : Int32)), (.ref b167)])) _
            refine XS.aload X222.here hx rfl (own_hb hby at_211) rfl rfl ?_
            show Steps p.tables e below (T222.setTop (mkF m 213 #[.val (.int p0), .val (.int p1), .val (.int p2), .val (.int (Int32.ofNat nn)), .val (.int (Int32.ofNat rg)), .val (.ref b92), .val (.ref b111), .val (.ref b132), .val (.ref b167), .unset] [(.ref b111), (.int (3 : Int32)), (.ref b167)])) _
            refine XS.iconst X222.here hx rfl (own_hb hby at_213) ?_
            exact kt
          obtain ⟨cl229, Ar229, hin229, hat229⟩ := own_Ar.get (j := (3 : Int32)) (k := 3) f224 ⟨rfl, by decide⟩
          refine own_Go.of (S' := (T222.setTop (mkF m 215 #[.val (.int p0), .val (.int p1), .val (.int p2), .val (.int (Int32.ofNat nn)), .val (.int (Int32.ofNat rg)), .val (.ref b92), .val (.ref b111), .val (.ref b132), .val (.ref b167), .unset] [(.int (Int32.ofNat (gi 3))), (.int (3 : Int32)), (.ref b167)]))) (fun t kt => ?_) ?_
          · show Steps p.tables e below (T222.setTop (mkF m 214 #[.val (.int p0), .val (.int p1), .val (.int p2), .val (.int (Int32.ofNat nn)), .val (.int (Int32.ofNat rg)), .val (.ref b92), .val (.ref b111), .val (.ref b132), .val (.ref b167), .unset] [(.int (3 : Int32)), (.ref b111), (.int (3 : Int32)), (.ref b167)])) _
            refine X222.iaload hx (j := (3 : Int32)) (v := (.int (Int32.ofNat (gi 3)))) (by rw [e222]; exact Ar229.1) (State.isArrayOf_alike hZ.alike Ar229.2.1) Ar229.2.2 hin229 hat229 (g := (mkF m 214 #[.val (.int p0), .val (.int p1), .val (.int p2), .val (.int (Int32.ofNat nn)), .val (.int (Int32.ofNat rg)), .val (.ref b92), .val (.ref b111), .val (.ref b132), .val (.ref b167), .unset] [(.int (3 : Int32)), (.ref b111), (.int (3 : Int32)), (.ref b167)])) rfl rfl (own_hb hby at_214) _ ?_
            exact kt
          obtain ⟨cl230, Ar230, hin230, ub230⟩ := own_Ar.put (j := (3 : Int32)) (k := 3) f227 ⟨rfl, by omega⟩
          obtain ⟨T230, h230, X230, e230, W230, st230⟩ := stI X222 hx hZ e222 Ar230 (j := (3 : Int32)) hin230 (g := (mkF m 215 #[.val (.int p0), .val (.int p1), .val (.int p2), .val (.int (Int32.ofNat nn)), .val (.int (Int32.ofNat rg)), .val (.ref b92), .val (.ref b111), .val (.ref b132), .val (.ref b167), .unset] [(.int (Int32.ofNat (gi 3))), (.int (3 : Int32)), (.ref b167)])) rfl rfl (own_hb hby at_215)
          refine own_Go.of (S' := (T230.setTop (mkF m 216 #[.val (.int p0), .val (.int p1), .val (.int p2), .val (.int (Int32.ofNat nn)), .val (.int (Int32.ofNat rg)), .val (.ref b92), .val (.ref b111), .val (.ref b132), .val (.ref b167), .unset] []))) st230 ?_
          have f231 := f223.other W230 ne168
          have f232 := f224.other W230 ne169
          have f233 := f225.other W230 ne170
          have z234 := Nat.le_trans z226 (Keep.of_wr W230).1
          have f235 : own_Ar Z h230 b167 .int nn (own_I (own_N (own_ns (own_ns (own_ns (fun _ => 0) 0 (gi 0)) 2 (gi 2)) 3 (gi 3)))) := by rw [← own_NI]; exact ub230 rfl W230
          have N230 := Fr.snoc X230 N222 gx167
          have f236 : own_Ar Z h230 b167 .int nn (own_I (own_N gi)) := f235.eqvI (fun j hj => by show Int32.ofNat _ = Int32.ofNat _; congr 1; first | omega | (obtain rfl | rfl | rfl | rfl : j = 0 ∨ j = 1 ∨ j = 2 ∨ j = 3 := by omega) <;> first | rfl | omega)
          exact tail0 hw hx hZ hby hml hret hlk hown hnm p0 p1 p2 h0 n0 nn rg b92 b111 b132 b167 kf gi kg (own_mono X230 (by decide) (by decide)) e230 N230 z234 hnn hrg hz hkf hgi hkg f231 f232 f233 f236
        · skip
          refine own_Go.of (S' := (T222.setTop (mkF m 216 #[.val (.int p0), .val (.int p1), .val (.int p2), .val (.int (Int32.ofNat nn)), .val (.int (Int32.ofNat rg)), .val (.ref b92), .val (.ref b111), .val (.ref b132), .val (.ref b167), .unset] []))) (fun t kt => ?_) ?_
          · show Steps p.tables e below (T222.setTop (mkF m 205 #[.val (.int p0), .val (.int p1), .val (.int p2), .val (.int (Int32.ofNat nn)), .val (.int (Int32.ofNat rg)), .val (.ref b92), .val (.ref b111), .val (.ref b132), .val (.ref b167), .unset] [(.int (3 : Int32)), (.int (Int32.ofNat nn))])) _
            refine XS.icmpYes X222.here hx rfl (pc0 := 205) (pc' := 216) rfl (own_hb hby at_205) rfl (flt (fun q => hc205_228 ((own_ltN (by omega) (by omega)).mp q))).2.2.2 (by decide) (by decide) ?_
            exact kt
          have f237 : own_Ar Z h222 b167 .int nn (own_I (own_N gi)) := f227.eqvI (fun j hj => by show Int32.ofNat _ = Int32.ofNat _; congr 1; first | omega | (obtain rfl | rfl | rfl | rfl : j = 0 ∨ j = 1 ∨ j = 2 ∨ j = 3 := by omega) <;> first | rfl | omega)
          exact tail0 hw hx hZ hby hml hret hlk hown hnm p0 p1 p2 h0 n0 nn rg b92 b111 b132 b167 kf gi kg (own_mono X222 (by decide) (by decide)) e222 N222 z226 hnn hrg hz hkf hgi hkg f223 f224 f225 f237
      · skip
        refine own_Go.of (S' := (T178.setTop (mkF m 205 #[.val (.int p0), .val (.int p1), .val (.int p2), .val (.int (Int32.ofNat nn)), .val (.int (Int32.ofNat rg)), .val (.ref b92), .val (.ref b111), .val (.ref b132), .val (.ref b167), .unset] [(.int (3 : Int32)), (.int (Int32.ofNat nn))]))) (fun t kt => ?_) ?_
        · show Steps p.tables e below (T178.setTop (mkF m 192 #[.val (.int p0), .val (.int p1), .val (.int p2), .val (.int (Int32.ofNat nn)), .val (.int (Int32.ofNat rg)), .val (.ref b92), .val (.ref b111), .val (.ref b132), .val (.ref b167), .unset] [(.int (2 : Int32)), (.int (Int32.ofNat nn))])) _
          refine XS.icmpYes X178.here hx rfl (pc0 := 192) (pc' := 203) rfl (own_hb hby at_192) rfl (flt (fun q => hc192_220 ((own_ltN (by omega) (by omega)).mp q))).2.2.2 (by decide) (by decide) ?_
          show Steps p.tables e below (T178.setTop (mkF m 203 #[.val (.int p0), .val (.int p1), .val (.int p2), .val (.int (Int32.ofNat nn)), .val (.int (Int32.ofNat rg)), .val (.ref b92), .val (.ref b111), .val (.ref b132), .val (.ref b167), .unset] [])) _
          refine XS.iloadN X178.here hx rfl (own_hb hby at_203) rfl ?_
          show Steps p.tables e below (T178.setTop (mkF m 204 #[.val (.int p0), .val (.int p1), .val (.int p2), .val (.int (Int32.ofNat nn)), .val (.int (Int32.ofNat rg)), .val (.ref b92), .val (.ref b111), .val (.ref b132), .val (.ref b167), .unset] [(.int (Int32.ofNat nn))])) _
          refine XS.iconst X178.here hx rfl (own_hb hby at_204) ?_
          exact kt
        by_cases hc205_238 : 3 < nn
        · skip
          refine own_Go.of (S' := (T178.setTop (mkF m 214 #[.val (.int p0), .val (.int p1), .val (.int p2), .val (.int (Int32.ofNat nn)), .val (.int (Int32.ofNat rg)), .val (.ref b92), .val (.ref b111), .val (.ref b132), .val (.ref b167), .unset] [(.int (3 : Int32)), (.ref b111), (.int (3 : Int32)), (.ref b167)]))) (fun t kt => ?_) ?_
          · show Steps p.tables e below (T178.setTop (mkF m 205 #[.val (.int p0), .val (.int p1), .val (.int p2), .val (.int (Int32.ofNat nn)), .val (.int (Int32.ofNat rg)), .val (.ref b92), .val (.ref b111), .val (.ref b132), .val (.ref b167), .unset] [(.int (3 : Int32)), (.int (Int32.ofNat nn))])) _
            refine XS.icmpNo X178.here hx rfl (own_hb hby at_205) rfl (tlt ((own_ltN (by omega) (by omega)).mpr hc205_238)).2.2.2 ?_
            show Steps p.tables e below (T178.setTop (mkF m 208 #[.val (.int p0), .val (.int p1), .val (.int p2), .val (.int (Int32.ofNat nn)), .val (.int (Int32.ofNat rg)), .val (.ref b92), .val (.ref b111), .val (.ref b132), .val (.ref b167), .unset] [])) _
            refine XS.aload X178.here hx rfl (own_hb hby at_208) rfl rfl ?_
            show Steps p.tables e below (T178.setTop (mkF m 210 #[.val (.int p0), .val (.int p1), .val (.int p2), .val (.int (Int32.ofNat nn)), .val (.int (Int32.ofNat rg)), .val (.ref b92), .val (.ref b111), .val (.ref b132), .val (.ref b167), .unset] [(.ref b167)])) _
            refine XS.iconst X178.here hx rfl (own_hb hby at_210) ?_
            show Steps p.tables e below (T178.setTop (mkF m 211 #[.val (.int p0), .val (.int p1), .val (.int p2), .val (.int (Int32.ofNat nn)), .val (.int (Int32.ofNat rg)), .val (.ref b92), .val (.ref b111), .val (.ref b132), .val (.ref b167), .unset] [(.int (3 : Int32)), (.ref b167)])) _
            refine XS.aload X178.here hx rfl (own_hb hby at_211) rfl rfl ?_
            show Steps p.tables e below (T178.setTop (mkF m 213 #[.val (.int p0), .val (.int p1), .val (.int p2), .val (.int (Int32.ofNat nn)), .val (.int (Int32.ofNat rg)), .val (.ref b92), .val (.ref b111), .val (.ref b132), .val (.ref b167), .unset] [(.ref b111), (.int (3 : Int32)), (.ref b167)])) _
            refine XS.iconst X178.here hx rfl (own_hb hby at_213) ?_
            exact kt
          obtain ⟨cl239, Ar239, hin239, hat239⟩ := own_Ar.get (j := (3 : Int32)) (k := 3) f180 ⟨rfl, by decide⟩
          refine own_Go.of (S' := (T178.setTop (mkF m 215 #[.val (.int p0), .val (.int p1), .val (.int p2), .val (.int (Int32.ofNat nn)), .val (.int (Int32.ofNat rg)), .val (.ref b92), .val (.ref b111), .val (.ref b132), .val (.ref b167), .unset] [(.int (Int32.ofNat (gi 3))), (.int (3 : Int32)), (.ref b167)]))) (fun t kt => ?_) ?_
          · show Steps p.tables e below (T178.setTop (mkF m 214 #[.val (.int p0), .val (.int p1), .val (.int p2), .val (.int (Int32.ofNat nn)), .val (.int (Int32.ofNat rg)), .val (.ref b92), .val (.ref b111), .val (.ref b132), .val (.ref b167), .unset] [(.int (3 : Int32)), (.ref b111), (.int (3 : Int32)), (.ref b167)])) _
            refine X178.iaload hx (j := (3 : Int32)) (v := (.int (Int32.ofNat (gi 3)))) (by rw [e178]; exact Ar239.1) (State.isArrayOf_alike hZ.alike Ar239.2.1) Ar239.2.2 hin239 hat239 (g := (mkF m 214 #[.val (.int p0), .val (.int p1), .val (.int p2), .val (.int (Int32.ofNat nn)), .val (.int (Int32.ofNat rg)), .val (.ref b92), .val (.ref b111), .val (.ref b132), .val (.ref b167), .unset] [(.int (3 : Int32)), (.ref b111), (.int (3 : Int32)), (.ref b167)])) rfl rfl (own_hb hby at_214) _ ?_
            exact kt
          obtain ⟨cl240, Ar240, hin240, ub240⟩ := own_Ar.put (j := (3 : Int32)) (k := 3) f183 ⟨rfl, by omega⟩
          obtain ⟨T240, h240, X240, e240, W240, st240⟩ := stI X178 hx hZ e178 Ar240 (j := (3 : Int32)) hin240 (g := (mkF m 215 #[.val (.int p0), .val (.int p1), .val (.int p2), .val (.int (Int32.ofNat nn)), .val (.int (Int32.ofNat rg)), .val (.ref b92), .val (.ref b111), .val (.ref b132), .val (.ref b167), .unset] [(.int (Int32.ofNat (gi 3))), (.int (3 : Int32)), (.ref b167)])) rfl rfl (own_hb hby at_215)
          refine own_Go.of (S' := (T240.setTop (mkF m 216 #[.val (.int p0), .val (.int p1), .val (.int p2), .val (.int (Int32.ofNat nn)), .val (.int (Int32.ofNat rg)), .val (.ref b92), .val (.ref b111), .val (.ref b132), .val (.ref b167), .unset] []))) st240 ?_
          have f241 := f179.other W240 ne168
          have f242 := f180.other W240 ne169
          have f243 := f181.other W240 ne170
          have z244 := Nat.le_trans z182 (Keep.of_wr W240).1
          have f245 : own_Ar Z h240 b167 .int nn (own_I (own_N (own_ns (own_ns (fun _ => 0) 0 (gi 0)) 3 (gi 3)))) := by rw [← own_NI]; exact ub240 rfl W240
          have N240 := Fr.snoc X240 N178 gx167
          have f246 : own_Ar Z h240 b167 .int nn (own_I (own_N gi)) := f245.eqvI (fun j hj => by show Int32.ofNat _ = Int32.ofNat _; congr 1; first | omega | (obtain rfl | rfl | rfl | rfl : j = 0 ∨ j = 1 ∨ j = 2 ∨ j = 3 := by omega) <;> first | rfl | omega)
          exact tail0 hw hx hZ hby hml hret hlk hown hnm p0 p1 p2 h0 n0 nn rg b92 b111 b132 b167 kf gi kg (own_mono X240 (by decide) (by decide)) e240 N240 z244 hnn hrg hz hkf hgi hkg f241 f242 f243 f246
        · skip
          refine own_Go.of (S' := (T178.setTop (mkF m 216 #[.val (.int p0), .val (.int p1), .val (.int p2), .val (.int (Int32.ofNat nn)), .val (.int (Int32.ofNat rg)), .val (.ref b92), .val (.ref b111), .val (.ref b132), .val (.ref b167), .unset] []))) (fun t kt => ?_) ?_
          · show Steps p.tables e below (T178.setTop (mkF m 205 #[.val (.int p0), .val (.int p1), .val (.int p2), .val (.int (Int32.ofNat nn)), .val (.int (Int32.ofNat rg)), .val (.ref b92), .val (.ref b111), .val (.ref b132), .val (.ref b167), .unset] [(.int (3 : Int32)), (.int (Int32.ofNat nn))])) _
            refine XS.icmpYes X178.here hx rfl (pc0 := 205) (pc' := 216) rfl (own_hb hby at_205) rfl (flt (fun q => hc205_238 ((own_ltN (by omega) (by omega)).mp q))).2.2.2 (by decide) (by decide) ?_
            exact kt
          have f247 : own_Ar Z h178 b167 .int nn (own_I (own_N gi)) := f183.eqvI (fun j hj => by show Int32.ofNat _ = Int32.ofNat _; congr 1; first | omega | (obtain rfl | rfl | rfl | rfl : j = 0 ∨ j = 1 ∨ j = 2 ∨ j = 3 := by omega) <;> first | rfl | omega)
          exact tail0 hw hx hZ hby hml hret hlk hown hnm p0 p1 p2 h0 n0 nn rg b92 b111 b132 b167 kf gi kg (own_mono X178 (by decide) (by decide)) e178 N178 z182 hnn hrg hz hkf hgi hkg f179 f180 f181 f247
  · skip
    refine own_Go.of (S' := (T167.setTop (mkF m 179 #[.val (.int p0), .val (.int p1), .val (.int p2), .val (.int (Int32.ofNat nn)), .val (.int (Int32.ofNat rg)), .val (.ref b92), .val (.ref b111), .val (.ref b132), .val (.ref b167), .unset] [(.int (1 : Int32)), (.int (Int32.ofNat nn))]))) (fun t kt => ?_) ?_
    · show Steps p.tables e below (T167.setTop (mkF m 166 #[.val (.int p0), .val (.int p1), .val (.int p2), .val (.int (Int32.ofNat nn)), .val (.int (Int32.ofNat rg)), .val (.ref b92), .val (.ref b111), .val (.ref b132), .val (.ref b167), .unset] [(.int (Int32.ofNat nn))])) _
      refine XS.ifYes X167.here hx rfl (pc0 := 166) (pc' := 177) rfl (own_hb hby at_166) rfl ((if0 _ _).trans (flt (fun q => hc166_176 ((own_ltN (by omega) (by omega)).mp q))).2.2.2) (by decide) (by decide) ?_
      show Steps p.tables e below (T167.setTop (mkF m 177 #[.val (.int p0), .val (.int p1), .val (.int p2), .val (.int (Int32.ofNat nn)), .val (.int (Int32.ofNat rg)), .val (.ref b92), .val (.ref b111), .val (.ref b132), .val (.ref b167), .unset] [])) _
      refine XS.iloadN X167.here hx rfl (own_hb hby at_177) rfl ?_
      show Steps p.tables e below (T167.setTop (mkF m 178 #[.val (.int p0), .val (.int p1), .val (.int p2), .val (.int (Int32.ofNat nn)), .val (.int (Int32.ofNat rg)), .val (.ref b92), .val (.ref b111), .val (.ref b132), .val (.ref b167), .unset] [(.int (Int32.ofNat nn))])) _
      refine XS.iconst X167.here hx rfl (own_hb hby at_178) ?_
      exact kt
    by_cases hc179_248 : 1 < nn
    · skip
      refine own_Go.of (S' := (T167.setTop (mkF m 188 #[.val (.int p0), .val (.int p1), .val (.int p2), .val (.int (Int32.ofNat nn)), .val (.int (Int32.ofNat rg)), .val (.ref b92), .val (.ref b111), .val (.ref b132), .val (.ref b167), .unset] [(.int (1 : Int32)), (.ref b111), (.int (1 : Int32)), (.ref b167)]))) (fun t kt => ?_) ?_
      · show Steps p.tables e below (T167.setTop (mkF m 179 #[.val (.int p0), .val (.int p1), .val (.int p2), .val (.int (Int32.ofNat nn)), .val (.int (Int32.ofNat rg)), .val (.ref b92), .val (.ref b111), .val (.ref b132), .val (.ref b167), .unset] [(.int (1 : Int32)), (.int (Int32.ofNat nn))])) _
        refine XS.icmpNo X167.here hx rfl (own_hb hby at_179) rfl (tlt ((own_ltN (by omega) (by omega)).mpr hc179_248)).2.2.2 ?_
        show Steps p.tables e below (T167.setTop (mkF m 182 #[.val (.int p0), .val (.int p1), .val (.int p2), .val (.int (Int32.ofNat nn)), .val (.int (Int32.ofNat rg)), .val (.ref b92), .val (.ref b111), .val (.ref b132), .val (.ref b167), .unset] [])) _
        refine XS.aload X167.here hx rfl (own_hb hby at_182) rfl rfl ?_
        show Steps p.tables e below (T167.setTop (mkF m 184 #[.val (.int p0), .val (.int p1), .val (.int p2), .val (.int (Int32.ofNat nn)), .val (.int (Int32.ofNat rg)), .val (.ref b92), .val (.ref b111), .val (.ref b132), .val (.ref b167), .unset] [(.ref b167)])) _
        refine XS.iconst X167.here hx rfl (own_hb hby at_184) ?_
        show Steps p.tables e below (T167.setTop (mkF m 185 #[.val (.int p0), .val (.int p1), .val (.int p2), .val (.int (Int32.ofNat nn)), .val (.int (Int32.ofNat rg)), .val (.ref b92), .val (.ref b111), .val (.ref b132), .val (.ref b167), .unset] [(.int (1 : Int32)), (.ref b167)])) _
        refine XS.aload X167.here hx rfl (own_hb hby at_185) rfl rfl ?_
        show Steps p.tables e below (T167.setTop (mkF m 187 #[.val (.int p0), .val (.int p1), .val (.int p2), .val (.int (Int32.ofNat nn)), .val (.int (Int32.ofNat rg)), .val (.ref b92), .val (.ref b111), .val (.ref b132), .val (.ref b167), .unset] [(.ref b111), (.int (1 : Int32)), (.ref b167)])) _
        refine XS.iconst X167.here hx rfl (own_hb hby at_187) ?_
        exact kt
      obtain ⟨cl249, Ar249, hin249, hat249⟩ := own_Ar.get (j := (1 : Int32)) (k := 1) f172 ⟨rfl, by decide⟩
      refine own_Go.of (S' := (T167.setTop (mkF m 189 #[.val (.int p0), .val (.int p1), .val (.int p2), .val (.int (Int32.ofNat nn)), .val (.int (Int32.ofNat rg)), .val (.ref b92), .val (.ref b111), .val (.ref b132), .val (.ref b167), .unset] [(.int (Int32.ofNat (gi 1))), (.int (1 : Int32)), (.ref b167)]))) (fun t kt => ?_) ?_
      · show Steps p.tables e below (T167.setTop (mkF m 188 #[.val (.int p0), .val (.int p1), .val (.int p2), .val (.int (Int32.ofNat nn)), .val (.int (Int32.ofNat rg)), .val (.ref b92), .val (.ref b111), .val (.ref b132), .val (.ref b167), .unset] [(.int (1 : Int32)), (.ref b111), (.int (1 : Int32)), (.ref b167)])) _
        refine X167.iaload hx (j := (1 : Int32)) (v := (.int (Int32.ofNat (gi 1)))) (by rw [e167]; exact Ar249.1) (State.isArrayOf_alike hZ.alike Ar249.2.1) Ar249.2.2 hin249 hat249 (g := (mkF m 188 #[.val (.int p0), .val (.int p1), .val (.int p2), .val (.int (Int32.ofNat nn)), .val (.int (Int32.ofNat rg)), .val (.ref b92), .val (.ref b111), .val (.ref b132), .val (.ref b167), .unset] [(.int (1 : Int32)), (.ref b111), (.int (1 : Int32)), (.ref b167)])) rfl rfl (own_hb hby at_188) _ ?_
        exact kt
      obtain ⟨cl250, Ar250, hin250, ub250⟩ := own_Ar.put (j := (1 : Int32)) (k := 1) f175 ⟨rfl, by omega⟩
      obtain ⟨T250, h250, X250, e250, W250, st250⟩ := stI X167 hx hZ e167 Ar250 (j := (1 : Int32)) hin250 (g := (mkF m 189 #[.val (.int p0), .val (.int p1), .val (.int p2), .val (.int (Int32.ofNat nn)), .val (.int (Int32.ofNat rg)), .val (.ref b92), .val (.ref b111), .val (.ref b132), .val (.ref b167), .unset] [(.int (Int32.ofNat (gi 1))), (.int (1 : Int32)), (.ref b167)])) rfl rfl (own_hb hby at_189)
      refine own_Go.of (S' := (T250.setTop (mkF m 190 #[.val (.int p0), .val (.int p1), .val (.int p2), .val (.int (Int32.ofNat nn)), .val (.int (Int32.ofNat rg)), .val (.ref b92), .val (.ref b111), .val (.ref b132), .val (.ref b167), .unset] []))) st250 ?_
      have f251 := f171.other W250 ne168
      have f252 := f172.other W250 ne169
      have f253 := f173.other W250 ne170
      have z254 := Nat.le_trans z174 (Keep.of_wr W250).1
      have f255 : own_Ar Z h250 b167 .int nn (own_I (own_N (own_ns (fun _ => 0) 1 (gi 1)))) := by rw [← own_NI]; exact ub250 rfl W250
      have N250 := Fr.snoc X250 N162 gx167
      refine own_Go.of (S' := (T250.setTop (mkF m 192 #[.val (.int p0), .val (.int p1), .val (.int p2), .val (.int (Int32.ofNat nn)), .val (.int (Int32.ofNat rg)), .val (.ref b92), .val (.ref b111), .val (.ref b132), .val (.ref b167), .unset] [(.int (2 : Int32)), (.int (Int32.ofNat nn))]))) (fun t kt => ?_) ?_
      · show Steps p.tables e below (T250.setTop (mkF m 190 #[.val (.int p0), .val (.int p1), .val (.int p2), .val (.int (Int32.ofNat nn)), .val (.int (Int32.ofNat rg)), .val (.ref b92), .val (.ref b111), .val (.ref b132), .val (.ref b167), .unset] [])) _
        refine XS.iloadN X250.here hx rfl (own_hb hby at_190) rfl ?_
        show Steps p.tables e below (T250.setTop (mkF m 191 #[.val (.int p0), .val (.int p1), .val (.int p2), .val (.int (Int32.ofNat nn)), .val (.int (Int32.ofNat rg)), .val (.ref b92), .val (.ref b111), .val (.ref b132), .val (.ref b167), .unset] [(.int (Int32.ofNat nn))])) _
        refine XS.iconst X250.here hx rfl (own_hb hby at_191) ?_
        exact kt
      by_cases hc192_256 : 2 < nn
      · skip
        refine own_Go.of (S' := (T250.setTop (mkF m 201 #[.val (.int p0), .val (.int p1), .val (.int p2), .val (.int (Int32.ofNat nn)), .val (.int (Int32.ofNat rg)), .val (.ref b92), .val (.ref b111), .val (.ref b132), .val (.ref b167), .unset] [(.int (2 : Int32)), (.ref b111), (.int (2 : Int32)), (.ref b167)]))) (fun t kt => ?_) ?_
        · show Steps p.tables e below (T250.setTop (mkF m 192 #[.val (.int p0), .val (.int p1), .val (.int p2), .val (.int (Int32.ofNat nn)), .val (.int (Int32.ofNat rg)), .val (.ref b92), .val (.ref b111), .val (.ref b132), .val (.ref b167), .unset] [(.int (2 : Int32)), (.int (Int32.ofNat nn))])) _
          refine XS.icmpNo X250.here hx rfl (own_hb hby at_192) rfl (tlt ((own_ltN (by omega) (by omega)).mpr hc192_256)).2.2.2 ?_
          show Steps p.tables e below (T250.setTop (mkF m 195 #[.val (.int p0), .val (.int p1), .val (.int p2), .val (.int (Int32.ofNat nn)), .val (.int (Int32.ofNat rg)), .val (.ref b92), .val (.ref b111), .val (.ref b132), .val (.ref b167), .unset] [])) _
          refine XS.aload X250.here hx rfl (own_hb hby at_195) rfl rfl ?_
          show Steps p.tables e below (T250.setTop (mkF m 197 #[.val (.int p0), .val (.int p1), .val (.int p2), .val (.int (Int32.ofNat nn)), .val (.int (Int32.ofNat rg)), .val (.ref b92), .val (.ref b111), .val (.ref b132), .val (.ref b167), .unset] [(.ref b167)])) _
          refine XS.iconst X250.here hx rfl (own_hb hby at_197) ?_
          show Steps p.tables e below (T250.setTop (mkF m 198 #[.val (.int p0), .val (.int p1), .val (.int p2), .val (.int (Int32.ofNat nn)), .val (.int (Int32.ofNat rg)), .val (.ref b92), .val (.ref b111), .val (.ref b132), .val (.ref b167), .unset] [(.int (2 : Int32)), (.ref b167)])) _
          refine XS.aload X250.here hx rfl (own_hb hby at_198) rfl rfl ?_
          show Steps p.tables e below (T250.setTop (mkF m 200 #[.val (.int p0), .val (.int p1), .val (.int p2), .val (.int (Int32.ofNat nn)), .val (.int (Int32.ofNat rg)), .val (.ref b92), .val (.ref b111), .val (.ref b132), .val (.ref b167), .unset] [(.ref b111), (.int (2 : Int32)), (.ref b167)])) _
          refine XS.iconst X250.here hx rfl (own_hb hby at_200) ?_
          exact kt
        obtain ⟨cl257, Ar257, hin257, hat257⟩ := own_Ar.get (j := (2 : Int32)) (k := 2) f252 ⟨rfl, by decide⟩
        refine own_Go.of (S' := (T250.setTop (mkF m 202 #[.val (.int p0), .val (.int p1), .val (.int p2), .val (.int (Int32.ofNat nn)), .val (.int (Int32.ofNat rg)), .val (.ref b92), .val (.ref b111), .val (.ref b132), .val (.ref b167), .unset] [(.int (Int32.ofNat (gi 2))), (.int (2 : Int32)), (.ref b167)]))) (fun t kt => ?_) ?_
        · show Steps p.tables e below (T250.setTop (mkF m 201 #[.val (.int p0), .val (.int p1), .val (.int p2), .val (.int (Int32.ofNat nn)), .val (.int (Int32.ofNat rg)), .val (.ref b92), .val (.ref b111), .val (.ref b132), .val (.ref b167), .unset] [(.int (2 : Int32)), (.ref b111), (.int (2 : Int32)), (.ref b167)])) _
          refine X250.iaload hx (j := (2 : Int32)) (v := (.int (Int32.ofNat (gi 2)))) (by rw [e250]; exact Ar257.1) (State.isArrayOf_alike hZ.alike Ar257.2.1) Ar257.2.2 hin257 hat257 (g := (mkF m 201 #[.val (.int p0), .val (.int p1), .val (.int p2), .val (.int (Int32.ofNat nn)), .val (.int (Int32.ofNat rg)), .val (.ref b92), .val (.ref b111), .val (.ref b132), .val (.ref b167), .unset] [(.int (2 : Int32)), (.ref b111), (.int (2 : Int32)), (.ref b167)])) rfl rfl (own_hb hby at_201) _ ?_
          exact kt
        obtain ⟨cl258, Ar258, hin258, ub258⟩ := own_Ar.put (j := (2 : Int32)) (k := 2) f255 ⟨rfl, by omega⟩
        obtain ⟨T258, h258, X258, e258, W258, st258⟩ := stI X250 hx hZ e250 Ar258 (j := (2 : Int32)) hin258 (g := (mkF m 202 #[.val (.int p0), .val (.int p1), .val (.int p2), .val (.int (Int32.ofNat nn)), .val (.int (Int32.ofNat rg)), .val (.ref b92), .val (.ref b111), .val (.ref b132), .val (.ref b167), .unset] [(.int (Int32.ofNat (gi 2))), (.int (2 : Int32)), (.ref b167)])) rfl rfl (own_hb hby at_202)
        refine own_Go.of (S' := (T258.setTop (mkF m 203 #[.val (.int p0), .val (.int p1), .val (.int p2), .val (.int (Int32.ofNat nn)), .val (.int (Int32.ofNat rg)), .val (.ref b92), .val (.ref b111), .val (.ref b132), .val (.ref b167), .unset] []))) st258 ?_
        have f259 := f251.other W258 ne168
        have f260 := f252.other W258 ne169
        have f261 := f253.other W258 ne170
        have z262 := Nat.le_trans z254 (Keep.of_wr W258).1
        have f263 : own_Ar Z h258 b167 .int nn (own_I (own_N (own_ns (own_ns (fun _ => 0) 1 (gi 1)) 2 (gi 2)))) := by rw [← own_NI]; exact ub258 rfl W258
        have N258 := Fr.snoc X258 N250 gx167
        refine own_Go.of (S' := (T258.setTop (mkF m 205 #[.val (.int p0), .val (.int p1), .val (.int p2), .val (.int (Int32.ofNat nn)), .val (.int (Int32.ofNat rg)), .val (.ref b92), .val (.ref b111), .val (.ref b132), .val (.ref b167), .unset] [(.int (3 : Int32)), (.int (Int32.ofNat nn))]))) (fun t kt => ?_) ?_
        · show Steps p.tables e below (T258.setTop (mkF m 203 #[.val (.int p0), .val (.int p1), .val (.int p2), .val (.int (Int32.ofNat nn)), .val (.int (Int32.ofNat rg)), .val (.ref b92), .val (.ref b111), .val (.ref b132), .val (.ref b167), .unset] [])) _
          refine XS.iloadN X258.here hx rfl (own_hb hby at_203) rfl ?_
          show Steps p.tables e below (T258.setTop (mkF m 204 #[.val (.int p0), .val (.int p1), .val (.int p2), .val (.int (Int32.ofNat nn)), .val (.int (Int32.ofNat rg)), .val (.ref b92), .val (.ref b111), .val (.ref b132), .val (.ref b167), .unset] [(.int (Int32.ofNat nn))])) _
          refine XS.iconst X258.here hx rfl (own_hb hby at_204) ?_
          exact kt
        by_cases hc205_264 : 3 < nn
        · skip
          refine own_Go.of (S' := (T258.setTop (mkF m 214 #[.val (.int p0), .val (.int p1), .val (.int p2), .val (.int (Int32.ofNat nn)), .val (.int (Int32.ofNat rg)), .val (.ref b92), .val (.ref b111), .val (.ref b132), .val (.ref b167), .unset] [(.int (3 : Int32)), (.ref b111), (.int (3 : Int32)), (.ref b167)]))) (fun t kt => ?_) ?_
          · show Steps p.tables e below (T258.setTop (mkF m 205 #[.val (.int p0), .val (.int p1), .val (.int p2), .val (.int (Int32.ofNat nn)), .val (.int (Int32.ofNat rg)), .val (.ref b92), .val (.ref b111), .val (.ref b132), .val (.ref b167), .unset] [(.int (3 : Int32)), (.int (Int32.ofNat nn))])) _
            refine XS.icmpNo X258.here hx rfl (own_hb hby at_205) rfl (tlt ((own_ltN (by omega) (by omega)).mpr hc205_264)).2.2.2 ?_
            show Steps p.tables e below (T258.setTop (mkF m 208 #[.val (.int p0), .val (.int p1), .val (.int p2), .val (.int (Int32.ofNat nn)), .val (.int (Int32.ofNat rg)), .val (.ref b92), .val (.ref b111), .val (.ref b132), .val (.ref b167), .unset] [])) _
            refine XS.aload X258.here hx rfl (own_hb hby at_208) rfl rfl ?_
            show Steps p.tables e below (T258.setTop (mkF m 210 #[.val (.int p0), .val (.int p1), .val (.int p2), .val (.int (Int32.ofNat nn)), .val (.int (Int32.ofNat rg)), .val (.ref b92), .val (.ref b111), .val (.ref b132), .val (.ref b167), .unset] [(.ref b167)])) _
            refine XS.iconst X258.here hx rfl (own_hb hby at_210) ?_
            show Steps p.tables e below (T258.setTop (mkF m 211 #[.val (.int p0), .val (.int p1), .val (.int p2), .val (.int (Int32.ofNat nn)), .val (.int (Int32.ofNat rg)), .val (.ref b92), .val (.ref b111), .val (.ref b132), .val (.ref b167), .unset] [(.int (3 : Int32)), (.ref b167)])) _
            refine XS.aload X258.here hx rfl (own_hb hby at_211) rfl rfl ?_
            show Steps p.tables e below (T258.setTop (mkF m 213 #[.val (.int p0), .val (.int p1), .val (.int p2), .val (.int (Int32.ofNat nn)), .val (.int (Int32.ofNat rg)), .val (.ref b92), .val (.ref b111), .val (.ref b132), .val (.ref b167), .unset] [(.ref b111), (.int (3 : Int32)), (.ref b167)])) _
            refine XS.iconst X258.here hx rfl (own_hb hby at_213) ?_
            exact kt
          obtain ⟨cl265, Ar265, hin265, hat265⟩ := own_Ar.get (j := (3 : Int32)) (k := 3) f260 ⟨rfl, by decide⟩
          refine own_Go.of (S' := (T258.setTop (mkF m 215 #[.val (.int p0), .val (.int p1), .val (.int p2), .val (.int (Int32.ofNat nn)), .val (.int (Int32.ofNat rg)), .val (.ref b92), .val (.ref b111), .val (.ref b132), .val (.ref b167), .unset] [(.int (Int32.ofNat (gi 3))), (.int (3 : Int32)), (.ref b167)]))) (fun t kt => ?_) ?_
          · show Steps p.tables e below (T258.setTop (mkF m 214 #[.val (.int p0), .val (.int p1), .val (.int p2), .val (.int (Int32.ofNat nn)), .val (.int (Int32.ofNat rg)), .val (.ref b92), .val (.ref b111), .val (.ref b132), .val (.ref b167), .unset] [(.int (3 : Int32)), (.ref b111), (.int (3 : Int32)), (.ref b167)])) _
            refine X258.iaload hx (j := (3 : Int32)) (v := (.int (Int32.ofNat (gi 3)))) (by rw [e258]; exact Ar265.1) (State.isArrayOf_alike hZ.alike Ar265.2.1) Ar265.2.2 hin265 hat265 (g := (mkF m 214 #[.val (.int p0), .val (.int p1), .val (.int p2), .val (.int (Int32.ofNat nn)), .val (.int (Int32.ofNat rg)), .val (.ref b92), .val (.ref b111), .val (.ref b132), .val (.ref b167), .unset] [(.int (3 : Int32)), (.ref b111), (.int (3 : Int32)), (.ref b167)])) rfl rfl (own_hb hby at_214) _ ?_
            exact kt
          obtain ⟨cl266, Ar266, hin266, ub266⟩ := own_Ar.put (j := (3 : Int32)) (k := 3) f263 ⟨rfl, by omega⟩
          obtain ⟨T266, h266, X266, e266, W266, st266⟩ := stI X258 hx hZ e258 Ar266 (j := (3 : Int32)) hin266 (g := (mkF m 215 #[.val (.int p0), .val (.int p1), .val (.int p2), .val (.int (Int32.ofNat nn)), .val (.int (Int32.ofNat rg)), .val (.ref b92), .val (.ref b111), .val (.ref b132), .val (.ref b167), .unset] [(.int (Int32.ofNat (gi 3))), (.int (3 : Int32)), (.ref b167)])) rfl rfl (own_hb hby at_215)
          refine own_Go.of (S' := (T266.setTop (mkF m 216 #[.val (.int p0), .val (.int p1), .val (.int p2), .val (.int (Int32.ofNat nn)), .val (.int (Int32.ofNat rg)), .val (.ref b92), .val (.ref b111), .val (.ref b132), .val (.ref b167), .unset] []))) st266 ?_
          have f267 := f259.other W266 ne168
          have f268 := f260.other W266 ne169
          have f269 := f261.other W266 ne170
          have z270 := Nat.le_trans z262 (Keep.of_wr W266).1
          have f271 : own_Ar Z h266 b167 .int nn (own_I (own_N (own_ns (own_ns (own_ns (fun _ => 0) 1 (gi 1)) 2 (gi 2)) 3 (gi 3)))) := by rw [← own_NI]; exact ub266 rfl W266
          have N266 := Fr.snoc X266 N258 gx167
          have f272 : own_Ar Z h266 b167 .int nn (own_I (own_N gi)) := f271.eqvI (fun j hj => by show Int32.ofNat _ = Int32.ofNat _; congr 1; first | omega | (obtain rfl | rfl | rfl | rfl : j = 0 ∨ j = 1 ∨ j = 2 ∨ j = 3 := by omega) <;> first | rfl | omega)
          exact tail0 hw hx hZ hby hml hret hlk hown hnm p0 p1 p2 h0 n0 nn rg b92 b111 b132 b167 kf gi kg (own_mono X266 (by decide) (by decide)) e266 N266 z270 hnn hrg hz hkf hgi hkg f267 f268 f269 f272
        · skip
          refine own_Go.of (S' := (T258.setTop (mkF m 216 #[.val (.int p0), .val (.int p1), .val (.int p2), .val (.int (Int32.ofNat nn)), .val (.int (Int32.ofNat rg)), .val (.ref b92), .val (.ref b111), .val (.ref b132), .val (.ref b167), .unset] []))) (fun t kt => ?_) ?_
          · show Steps p.tables e below (T258.setTop (mkF m 205 #[.val (.int p0), .val (.int p1), .val (.int p2), .val (.int (Int32.ofNat nn)), .val (.int (Int32.ofNat rg)), .val (.ref b92), .val (.ref b111), .val (.ref b132), .val (.ref b167), .unset] [(.int (3 : Int32)), (.int (Int32.ofNat nn))])) _
            refine XS.icmpYes X258.here hx rfl (pc0 := 205) (pc' := 216) rfl (own_hb hby at_205) rfl (flt (fun q => hc205_264 ((own_ltN (by omega) (by omega)).mp q))).2.2.2 (by decide) (by decide) ?_
            exact kt
          have f273 : own_Ar Z h258 b167 .int nn (own_I (own_N gi)) := f263.eqvI (fun j hj => by show Int32.ofNat _ = Int32.ofNat _; congr 1; first | omega | (obtain rfl | rfl | rfl | rfl : j = 0 ∨ j = 1 ∨ j = 2 ∨ j = 3 := by omega) <;> first | rfl | omega)
          exact tail0 hw hx hZ hby hml hret hlk hown hnm p0 p1 p2 h0 n0 nn rg b92 b111 b132 b167 kf gi kg (own_mono X258 (by decide) (by decide)) e258 N258 z262 hnn hrg hz hkf hgi hkg f259 f260 f261 f273
      · skip
        refine own_Go.of (S' := (T250.setTop (mkF m 205 #[.val (.int p0), .val (.int p1), .val (.int p2), .val (.int (Int32.ofNat nn)), .val (.int (Int32.ofNat rg)), .val (.ref b92), .val (.ref b111), .val (.ref b132), .val (.ref b167), .unset] [(.int (3 : Int32)), (.int (Int32.ofNat nn))]))) (fun t kt => ?_) ?_
        · show Steps p.tables e below (T250.setTop (mkF m 192 #[.val (.int p0), .val (.int p1), .val (.int p2), .val (.int (Int32.ofNat nn)), .val (.int (Int32.ofNat rg)), .val (.ref b92), .val (.ref b111), .val (.ref b132), .val (.ref b167), .unset] [(.int (2 : Int32)), (.int (Int32.ofNat nn))])) _
          refine XS.icmpYes X250.here hx rfl (pc0 := 192) (pc' := 203) rfl (own_hb hby at_192) rfl (flt (fun q => hc192_256 ((own_ltN (by omega) (by omega)).mp q))).2.2.2 (by decide) (by decide) ?_
          show Steps p.tables e below (T250.setTop (mkF m 203 #[.val (.int p0), .val (.int p1), .val (.int p2), .val (.int (Int32.ofNat nn)), .val (.int (Int32.ofNat rg)), .val (.ref b92), .val (.ref b111), .val (.ref b132), .val (.ref b167), .unset] [])) _
          refine XS.iloadN X250.here hx rfl (own_hb hby at_203) rfl ?_
          show Steps p.tables e below (T250.setTop (mkF m 204 #[.val (.int p0), .val (.int p1), .val (.int p2), .val (.int (Int32.ofNat nn)), .val (.int (Int32.ofNat rg)), .val (.ref b92), .val (.ref b111), .val (.ref b132), .val (.ref b167), .unset] [(.int (Int32.ofNat nn))])) _
          refine XS.iconst X250.here hx rfl (own_hb hby at_204) ?_
          exact kt
        by_cases hc205_274 : 3 < nn
        · skip
          refine own_Go.of (S' := (T250.setTop (mkF m 214 #[.val (.int p0), .val (.int p1), .val (.int p2), .val (.int (Int32.ofNat nn)), .val (.int (Int32.ofNat rg)), .val (.ref b92), .val (.ref b111), .val (.ref b132), .val (.ref b167), .unset] [(.int (3 : Int32)), (.ref b111), (.int (3 : Int32)), (.ref b167)]))) (fun t kt => ?_) ?_
          · show Steps p.tables e below (T250.setTop (mkF m 205 #[.val (.int p0), .val (.int p1), .val (.int p2), .val (.int (Int32.ofNat nn)), .val (.int (Int32.ofNat rg)), .val (.ref b92), .val (.ref b111), .val (.ref b132), .val (.ref b167), .unset] [(.int (3 : Int32)), (.int (Int32.ofNat nn))])) _
            refine XS.icmpNo X250.here hx rfl (own_hb hby at_205) rfl (tlt ((own_ltN (by omega) (by omega)).mpr hc205_274)).2.2.2 ?_
            show Steps p.tables e below (T250.setTop (mkF m 208 #[.val (.int p0), .val (.int p1), .val (.int p2), .val (.int (Int32.ofNat nn)), .val (.int (Int32.ofNat rg)), .val (.ref b92), .val (.ref b111), .val (.ref b132), .val (.ref b167), .unset] [])) _
            refine XS.aload X250.here hx rfl (own_hb hby at_208) rfl rfl ?_
            show Steps p.tables e below (T250.setTop (mkF m 210 #[.val (.int p0), .val (.int p1), .val (.int p2), .val (.int (Int32.ofNat nn)), .val (.int (Int32.ofNat rg)), .val (.ref b92), .val (.ref b111), .val (.ref b132), .val (.ref b167), .unset] [(.ref b167)])) _
            refine XS.iconst X250.here hx rfl (own_hb hby at_210) ?_
            show Steps p.tables e below (T250.setTop (mkF m 211 #[.val (.int p0), .val (.int p1), .val (.int p2), .val (.int (Int32.ofNat nn)), .val (.int (Int32.ofNat rg)), .val (.ref b92), .val (.ref b111), .val (.ref b132), .val (.ref b167), .unset] [(.int (3 : Int32)), (.ref b167)])) _
            refine XS.aload X250.here hx rfl (own_hb hby at_211) rfl rfl ?_
            show Steps p.tables e below (T250.setTop (mkF m 213 #[.val (.int p0), .val (.int p1), .val (.int p2), .val (.int (Int32.ofNat nn)), .val (.int (Int32.ofNat rg)), .val (.ref b92), .val (.ref b111), .val (.ref b132), .val (.ref b167), .unset] [(.ref b111), (.int (3 : Int32)), (.ref b167)])) _
            refine XS.iconst X250.here hx rfl (own_hb hby at_213) ?_
            exact kt
          obtain ⟨cl275, Ar275, hin275, hat275⟩ := own_Ar.get (j := (3 : Int32)) (k := 3) f252 ⟨rfl, by decide⟩
          refine own_Go.of (S' := (T250.setTop (mkF m 215 #[.val (.int p0), .val (.int p1), .val (.int p2), .val (.int (Int32.ofNat nn)), .val (.int (Int32.ofNat rg)), .val (.ref b92), .val (.ref b111), .val (.ref b132), .val (.ref b167), .unset] [(.int (Int32.ofNat (gi 3))), (.int (3 : Int32)), (.ref b167)]))) (fun t kt => ?_) ?_
          · show Steps p.tables e below (T250.setTop (mkF m 214 #[.val (.int p0), .val (.int p1), .val (.int p2), .val (.int (Int32.ofNat nn)), .val (.int (Int32.ofNat rg)), .val (.ref b92), .val (.ref b111), .val (.ref b132), .val (.ref b167), .unset] [(.int (3 : Int32)), (.ref b111), (.int (3 : Int32)), (.ref b167)])) _
            refine X250.iaload hx (j := (3 : Int32)) (v := (.int (Int32.ofNat (gi 3)))) (by rw [e250]; exact Ar275.1) (State.isArrayOf_alike hZ.alike Ar275.2.1) Ar275.2.2 hin275 hat275 (g := (mkF m 214 #[.val (.int p0), .val (.int p1), .val (.int p2), .val (.int (Int32.ofNat nn)), .val (.int (Int32.ofNat rg)), .val (.ref b92), .val (.ref b111), .val (.ref b132), .val (.ref b167), .unset] [(.int (3 : Int32)), (.ref b111), (.int (3 : Int32)), (.ref b167)])) rfl rfl (own_hb hby at_214) _ ?_
            exact kt
          obtain ⟨cl276, Ar276, hin276, ub276⟩ := own_Ar.put (j := (3 : Int32)) (k := 3) f255 ⟨rfl, by omega⟩
          obtain ⟨T276, h276, X276, e276, W276, st276⟩ := stI X250 hx hZ e250 Ar276 (j := (3 : Int32)) hin276 (g := (mkF m 215 #[.val (.int p0), .val (.int p1), .val (.int p2), .val (.int (Int32.ofNat nn)), .val (.int (Int32.ofNat rg)), .val (.ref b92), .val (.ref b111), .val (.ref b132), .val (.ref b167), .unset] [(.int (Int32.ofNat (gi 3))), (.int (3 : Int32)), (.ref b167)])) rfl rfl (own_hb hby at_215)
          refine own_Go.of (S' := (T276.setTop (mkF m 216 #[.val (.int p0), .val (.int p1), .val (.int p2), .val (.int (Int32.ofNat nn)), .val (.int (Int32.ofNat rg)), .val (.ref b92), .val (.ref b111), .val (.ref b132), .val (.ref b167), .unset] []))) st276 ?_
          have f277 := f251.other W276 ne168
          have f278 := f252.other W276 ne169
          have f279 := f253.other W276 ne170
          have z280 := Nat.le_trans z254 (Keep.of_wr W276).1
          have f281 : own_Ar Z h276 b167 .int nn (own_I (own_N (own_ns (own_ns (fun _ => 0) 1 (gi 1)) 3 (gi 3)))) := by rw [← own_NI]; exact ub276 rfl W276
          have N276 := Fr.snoc X276 N250 gx167
          have f282 : own_Ar Z h276 b167 .int nn (own_I (own_N gi)) := f281.eqvI (fun j hj => by show Int32.ofNat _ = Int32.ofNat _; congr 1; first | omega | (obtain rfl | rfl | rfl | rfl : j = 0 ∨ j = 1 ∨ j = 2 ∨ j = 3 := by omega) <;> first | rfl | omega)
          exact tail0 hw hx hZ hby hml hret hlk hown hnm p0 p1 p2 h0 n0 nn rg b92 b111 b132 b167 kf gi kg (own_mono X276 (by decide) (by decide)) e276 N276 z280 hnn hrg hz hkf hgi hkg f277 f278 f279 f282
        · skip
          refine own_Go.of (S' := (T250.setTop (mkF m 216 #[.val (.int p0), .val (.int p1), .val (.int p2), .val (.int (Int32.ofNat nn)), .val (.int (Int32.ofNat rg)), .val (.ref b92), .val (.ref b111), .val (.ref b132), .val (.ref b167), .unset] []))) (fun t kt => ?_) ?_
          · show Steps p.tables e below (T250.setTop (mkF m 205 #[.val (.int p0), .val (.int p1), .val (.int p2), .val (.int (Int32.ofNat nn)), .val (.int (Int32.ofNat rg)), .val (.ref b92), .val (.ref b111), .val (.ref b132), .val (.ref b167), .unset] [(.int (3 : Int32)), (.int (Int32.ofNat nn))])) _
            refine XS.icmpYes X250.here hx rfl (pc0 := 205) (pc' := 216) rfl (own_hb hby at_205) rfl (flt (fun q => hc205_274 ((own_ltN (by omega) (by omega)).mp q))).2.2.2 (by decide) (by decide) ?_
            exact kt
          have f283 : own_Ar Z h250 b167 .int nn (own_I (own_N gi)) := f255.eqvI (fun j hj => by show Int32.ofNat _ = Int32.ofNat _; congr 1; first | omega | (obtain rfl | rfl | rfl | rfl : j = 0 ∨ j = 1 ∨ j = 2 ∨ j = 3 := by omega) <;> first | rfl | omega)
          exact tail0 hw hx hZ hby hml hret hlk hown hnm p0 p1 p2 h0 n0 nn rg b92 b111 b132 b167 kf gi kg (own_mono X250 (by decide) (by decide)) e250 N250 z254 hnn hrg hz hkf hgi hkg f251 f252 f253 f283
    · skip
      refine own_Go.of (S' := (T167.setTop (mkF m 192 #[.val (.int p0), .val (.int p1), .val (.int p2), .val (.int (Int32.ofNat nn)), .val (.int (Int32.ofNat rg)), .val (.ref b92), .val (.ref b111), .val (.ref b132), .val (.ref b167), .unset] [(.int (2 : Int32)), (.int (Int32.ofNat nn))]))) (fun t kt => ?_) ?_
      · show Steps p.tables e below (T167.setTop (mkF m 179 #[.val (.int p0), .val (.int p1), .val (.int p2), .val (.int (Int32.ofNat nn)), .val (.int (Int32.ofNat rg)), .val (.ref b92), .val (.ref b111), .val (.ref b132), .val (.ref b167), .unset] [(.int (1 : Int32)), (.int (Int32.ofNat nn))])) _
        refine XS.icmpYes X167.here hx rfl (pc0 := 179) (pc' := 190) rfl (own_hb hby at_179) rfl (flt (fun q => hc179_248 ((own_ltN (by omega) (by omega)).mp q))).2.2.2 (by decide) (by decide) ?_
        show Steps p.tables e below (T167.setTop (mkF m 190 #[.val (.int p0), .val (.int p1), .val (.int p2), .val (.int (Int32.ofNat nn)), .val (.int (Int32.ofNat rg)), .val (.ref b92), .val (.ref b111), .val (.ref b132), .val (.ref b167), .unset] [])) _
        refine XS.iloadN X167.here hx rfl (own_hb hby at_190) rfl ?_
        show Steps p.tables e below (T167.setTop (mkF m 191 #[.val (.int p0), .val (.int p1), .val (.int p2), .val (.int (Int32.ofNat nn)), .val (.int (Int32.ofNat rg)), .val (.ref b92), .val (.ref b111), .val (.ref b132), .val (.ref b167), .unset] [(.int (Int32.ofNat nn))])) _
        refine XS.iconst X167.here hx rfl (own_hb hby at_191) ?_
        exact kt
      by_cases hc192_284 : 2 < nn
      · skip
        refine own_Go.of (S' := (T167.setTop (mkF m 201 #[.val (.int p0), .val (.int p1), .val (.int p2), .val (.int (Int32.ofNat nn)), .val (.int (Int32.ofNat rg)), .val (.ref b92), .val (.ref b111), .val (.ref b132), .val (.ref b167), .unset] [(.int (2 : Int32)), (.ref b111), (.int (2 : Int32)), (.ref b167)]))) (fun t kt => ?_) ?_
        · show Steps p.tables e below (T167.setTop (mkF m 192 #[.val (.int p0), .val (.int p1), .val (.int p2), .val (.int (Int32.ofNat nn)), .val (.int (Int32.ofNat rg)), .val (.ref b92), .val (.ref b111), .val (.ref b132), .val (.ref b167), .unset] [(.int (2 : Int32)), (.int (Int32.ofNat nn))])) _
          refine XS.icmpNo X167.here hx rfl (own_hb hby at_192) rfl (tlt ((own_ltN (by omega) (by omega)).mpr hc192_284)).2.2.2 ?_
          show Steps p.tables e below (T167.setTop (mkF m 195 #[.val (.int p0), .val (.int p1), .val (.int p2), .val (.int (Int32.ofNat nn)), .val (.int (Int32.ofNat rg)), .val (.ref b92), .val (.ref b111), .val (.ref b132), .val (.ref b167), .unset] [])) _
          refine XS.aload X167.here hx rfl (own_hb hby at_195) rfl rfl ?_
          show Steps p.tables e below (T167.setTop (mkF m 197 #[.val (.int p0), .val (.int p1), .val (.int p2), .val (.int (Int32.ofNat nn)), .val (.int (Int32.ofNat rg)), .val (.ref b92), .val (.ref b111), .val (.ref b132), .val (.ref b167), .unset] [(.ref b167)])) _
          refine XS.iconst X167.here hx rfl (own_hb hby at_197) ?_
          show Steps p.tables e below (T167.setTop (mkF m 198 #[.val (.int p0), .val (.int p1), .val (.int p2), .val (.int (Int32.ofNat nn)), .val (.int (Int32.ofNat rg)), .val (.ref b92), .val (.ref b111), .val (.ref b132), .val (.ref b167), .unset] [(.int (2 : Int32)), (.ref b167)])) _
          refine XS.aload X167.here hx rfl (own_hb hby at_198) rfl rfl ?_
          show Steps p.tables e below (T167.setTop (mkF m 200 #[.val (.int p0), .val (.int p1), .val (.int p2), .val (.int (Int32.ofNat nn)), .val (.int (Int32.ofNat rg)), .val (.ref b92), .val (.ref b111), .val (.ref b132), .val (.ref b167), .unset] [(.ref b111), (.int (2 : Int32)), (.ref b167)])) _
          refine XS.iconst X167.here hx rfl (own_hb hby at_200) ?_
          exact kt
        obtain ⟨cl285, Ar285, hin285, hat285⟩ := own_Ar.get (j := (2 : Int32)) (k := 2) f172 ⟨rfl, by decide⟩
        refine own_Go.of (S' := (T167.setTop (mkF m 202 #[.val (.int p0), .val (.int p1), .val (.int p2), .val (.int (Int32.ofNat nn)), .val (.int (Int32.ofNat rg)), .val (.ref b92), .val (.ref b111), .val (.ref b132), .val (.ref b167), .unset] [(.int (Int32.ofNat (gi 2))), (.int (2 : Int32)), (.ref b167)]))) (fun t kt => ?_) ?_
        · show Steps p.tables e below (T167.setTop (mkF m 201 #[.val (.int p0), .val (.int p1), .val (.int p2), .val (.int (Int32.ofNat nn)), .val (.int (Int32.ofNat rg)), .val (.ref b92), .val (.ref b111), .val (.ref b132), .val (.ref b167), .unset] [(.int (2 : Int32)), (.ref b111), (.int (2 : Int32)), (.ref b167)])) _
          refine X167.iaload hx (j := (2 : Int32)) (v := (.int (Int32.ofNat (gi 2)))) (by rw [e167]; exact Ar285.1) (State.isArrayOf_alike hZ.alike Ar285.2.1) Ar285.2.2 hin285 hat285 (g := (mkF m 201 #[.val (.int p0), .val (.int p1), .val (.int p2), .val (.int (Int32.ofNat nn)), .val (.int (Int32.ofNat rg)), .val (.ref b92), .val (.ref b111), .val (.ref b132), .val (.ref b167), .unset] [(.int (2 : Int32)), (.ref b111), (.int (2 : Int32)), (.ref b167)])) rfl rfl (own_hb hby at_201) _ ?_
          exact kt
        obtain ⟨cl286, Ar286, hin286, ub286⟩ := own_Ar.put (j := (2 : Int32)) (k := 2) f175 ⟨rfl, by omega⟩
        obtain ⟨T286, h286, X286, e286, W286, st286⟩ := stI X167 hx hZ e167 Ar286 (j := (2 : Int32)) hin286 (g := (mkF m 202 #[.val (.int p0), .val (.int p1), .val (.int p2), .val (.int (Int32.ofNat nn)), .val (.int (Int32.ofNat rg)), .val (.ref b92), .val (.ref b111), .val (.ref b132), .val (.ref b167), .unset] [(.int (Int32.ofNat (gi 2))), (.int (2 : Int32)), (.ref b167)])) rfl rfl (own_hb hby at_202)
        refine own_Go.of (S' := (T286.setTop (mkF m 203 #[.val (.int p0), .val (.int p1), .val (.int p2), .val (.int (Int32.ofNat nn)), .val (.int (Int32.ofNat rg)), .val (.ref b92), .val (.ref b111), .val (.ref b132), .val (.ref b167), .unset] []))) st286 ?_
        have f287 := f171.other W286 ne168
        have f288 := f172.other W286 ne169
        have f289 := f173.other W286 ne170
        have z290 := Nat.le_trans z174 (Keep.of_wr W286).1
        have f291 : own_Ar Z h286 b167 .int nn (own_I (own_N (own_ns (fun _ => 0) 2 (gi 2)))) := by rw [← own_NI]; exact ub286 rfl W286
        have N286 := Fr.snoc X286 N162 gx167
        refine own_Go.of (S' := (T286.setTop (mkF m 205 #[.val (.int p0), .val (.int p1), .val (.int p2), .val (.int (Int32.ofNat nn)), .val (.int (Int32.ofNat rg)), .val (.ref b92), .val (.ref b111), .val (.ref b132), .val (.ref b167), .unset] [(.int (3 : Int32)), (.int (Int32.ofNat nn))]))) (fun t kt => ?_) ?_
        · show Steps p.tables e below (T286.setTop (mkF m 203 #[.val (.int p0), .val (.int p1), .val (.int p2), .val (.int (Int32.ofNat nn)), .val (.int (Int32.ofNat rg)), .val (.ref b92), .val (.ref b111), .val (.ref b132), .val (.ref b167), .unset] [])) _
          refine XS.iloadN X286.here hx rfl (own_hb hby at_203) rfl ?_
          show Steps p.tables e below (T286.setTop (mkF m 204 #[.val (.int p0), .val (.int p1), .val (.int p2), .val (.int (Int32.ofNat nn)), .val (.int (Int32.ofNat rg)), .val (.ref b92), .val (.ref b111), .val (.ref b132), .val (.ref b167), .unset] [(.int (Int32.ofNat nn))])) _
          refine XS.iconst X286.here hx rfl (own_hb hby at_204) ?_
          exact kt
        by_cases hc205_292 : 3 < nn
        · skip
          refine own_Go.of (S' := (T286.setTop (mkF m 214 #[.val (.int p0), .val (.int p1), .val (.int p2), .val (.int (Int32.ofNat nn)), .val (.int (Int32.ofNat rg)), .val (.ref b92), .val (.ref b111), .val (.ref b132), .val (.ref b167), .unset] [(.int (3 : Int32)), (.ref b111), (.int (3 : Int32)), (.ref b167)]))) (fun t kt => ?_) ?_
          · show Steps p.tables e below (T286.setTop (mkF m 205 #[.val (.int p0), .val (.int p1), .val (.int p2), .val (.int (Int32.ofNat nn)), .val (.int (Int32.ofNat rg)), .val (.ref b92), .val (.ref b111), .val (.ref b132), .val (.ref b167), .unset] [(.int (3 : Int32)), (.int (Int32.ofNat nn))])) _
            refine XS.icmpNo X286.here hx rfl (own_hb hby at_205) rfl (tlt ((own_ltN (by omega) (by omega)).mpr hc205_292)).2.2.2 ?_
            show Steps p.tables e below (T286.setTop (mkF m 208 #[.val (.int p0), .val (.int p1), .val (.int p2), .val (.int (Int32.ofNat nn)), .val (.int (Int32.ofNat rg)), .val (.ref b92), .val (.ref b111), .val (.ref b132), .val (.ref b167), .unset] [])) _
            refine XS.aload X286.here hx rfl (own_hb hby at_208) rfl rfl ?_
            show Steps p.tables e below (T286.setTop (mkF m 210 #[.val (.int p0), .val (.int p1), .val (.int p2), .val (.int (Int32.ofNat nn)), .val (.int (Int32.ofNat rg)), .val (.ref b92), .val (.ref b111), .val (.ref b132), .val (.ref b167), .unset] [(.ref b167)])) _
            refine XS.iconst X286.here hx rfl (own_hb hby at_210) ?_
            show Steps p.tables e below (T286.setTop (mkF m 211 #[.val (.int p0), .val (.int p1), .val (.int p2), .val (.int (Int32.ofNat nn)), .val (.int (Int32.ofNat rg)), .val (.ref b92), .val (.ref b111), .val (.ref b132), .val (.ref b167), .unset] [(.int (3 : Int32)), (.ref b167)])) _
            refine XS.aload X286.here hx rfl (own_hb hby at_211) rfl rfl ?_
            show Steps p.tables e below (T286.setTop (mkF m 213 #[.val (.int p0), .val (.int p1), .val (.int p2), .val (.int (Int32.ofNat nn)), .val (.int (Int32.ofNat rg)), .val (.ref b92), .val (.ref b111), .val (.ref b132), .val (.ref b167), .unset] [(.ref b111), (.int (3 : Int32)), (.ref b167)])) _
            refine XS.iconst X286.here hx rfl (own_hb hby at_213) ?_
            exact kt
          obtain ⟨cl293, Ar293, hin293, hat293⟩ := own_Ar.get (j := (3 : Int32)) (k := 3) f288 ⟨rfl, by decide⟩
          refine own_Go.of (S' := (T286.setTop (mkF m 215 #[.val (.int p0), .val (.int p1), .val (.int p2), .val (.int (Int32.ofNat nn)), .val (.int (Int32.ofNat rg)), .val (.ref b92), .val (.ref b111), .val (.ref b132), .val (.ref b167), .unset] [(.int (Int32.ofNat (gi 3))), (.int (3 : Int32)), (.ref b167)]))) (fun t kt => ?_) ?_
          · show Steps p.tables e below (T286.setTop (mkF m 214 #[.val (.int p0), .val (.int p1), .val (.int p2), .val (.int (Int32.ofNat nn)), .val (.int (Int32.ofNat rg)), .val (.ref b92), .val (.ref b111), .val (.ref b132), .val (.ref b167), .unset] [(.int (3 : Int32)), (.ref b111), (.int (3 : Int32)), (.ref b167)])) _
            refine X286.iaload hx (j := (3 : Int32)) (v := (.int (Int32.ofNat (gi 3)))) (by rw [e286]; exact Ar293.1) (State.isArrayOf_alike hZ.alike Ar293.2.1) Ar293.2.2 hin293 hat293 (g := (mkF m 214 #[.val (.int p0), .val (.int p1), .val (.int p2), .val (.int (Int32.ofNat nn)), .val (.int (Int32.ofNat rg)), .val (.ref b92), .val (.ref b111), .val (.ref b132), .val (.ref b167), .unset] [(.int (3 : Int32)), (.ref b111), (.int (3 : Int32)), (.ref b167)])) rfl rfl (own_hb hby at_214) _ ?_
            exact kt
          obtain ⟨cl294, Ar294, hin294, ub294⟩ := own_Ar.put (j := (3 : Int32)) (k := 3) f291 ⟨rfl, by omega⟩
          obtain ⟨T294, h294, X294, e294, W294, st294⟩ := stI X286 hx hZ e286 Ar294 (j := (3 : Int32)) hin294 (g := (mkF m 215 #[.val (.int p0), .val (.int p1), .val (.int p2), .val (.int (Int32.ofNat nn)), .val (.int (Int32.ofNat rg)), .val (.ref b92), .val (.ref b111), .val (.ref b132), .val (.ref b167), .unset] [(.int (Int32.ofNat (gi 3))), (.int (3 : Int32)), (.ref b167)])) rfl rfl (own_hb hby at_215)
          refine own_Go.of (S' := (T294.setTop (mkF m 216 #[.val (.int p0), .val (.int p1), .val (.int p2), .val (.int (Int32.ofNat nn)), .val (.int (Int32.ofNat rg)), .val (.ref b92), .val (.ref b111), .val (.ref b132), .val (.ref b167), .unset] []))) st294 ?_
          have f295 := f287.other W294 ne168
          have f296 := f288.other W294 ne169
          have f297 := f289.other W294 ne170
          have z298 := Nat.le_trans z290 (Keep.of_wr W294).1
          have f299 : own_Ar Z h294 b167 .int nn (own_I (own_N (own_ns (own_ns (fun _ => 0) 2 (gi 2)) 3 (gi 3)))) := by rw [← own_NI]; exact ub294 rfl W294
          have N294 := Fr.snoc X294 N286 gx167
          have f300 : own_Ar Z h294 b167 .int nn (own_I (own_N gi)) := f299.eqvI (fun j hj => by show Int32.ofNat _ = Int32.ofNat _; congr 1; first | omega | (obtain rfl | rfl | rfl | rfl : j = 0 ∨ j = 1 ∨ j = 2 ∨ j = 3 := by omega) <;> first | rfl | omega)
          exact tail0 hw hx hZ hby hml hret hlk hown hnm p0 p1 p2 h0 n0 nn rg b92 b111 b132 b167 kf gi kg (own_mono X294 (by decide) (by decide)) e294 N294 z298 hnn hrg hz hkf hgi hkg f295 f296 f297 f300
        · skip
          refine own_Go.of (S' := (T286.setTop (mkF m 216 #[.val (.int p0), .val (.int p1), .val (.int p2), .val (.int (Int32.ofNat nn)), .val (.int (Int32.ofNat rg)), .val (.ref b92), .val (.ref b111), .val (.ref b132), .val (.ref b167), .unset] []))) (fun t kt => ?_) ?_
          · show Steps p.tables e below (T286.setTop (mkF m 205 #[.val (.int p0), .val (.int p1), .val (.int p2), .val (.int (Int32.ofNat nn)), .val (.int (Int32.ofNat rg)), .val (.ref b92), .val (.ref b111), .val (.ref b132), .val (.ref b167), .unset] [(.int (3 : Int32)), (.int (Int32.ofNat nn))])) _
            refine XS.icmpYes X286.here hx rfl (pc0 := 205) (pc' := 216) rfl (own_hb hby at_205) rfl (flt (fun q => hc205_292 ((own_ltN (by omega) (by omega)).mp q))).2.2.2 (by decide) (by decide) ?_
            exact kt
          have f301 : own_Ar Z h286 b167 .int nn (own_I (own_N gi)) := f291.eqvI (fun j hj => by show Int32.ofNat _ = Int32.ofNat _; congr 1; first | omega | (obtain rfl | rfl | rfl | rfl : j = 0 ∨ j = 1 ∨ j = 2 ∨ j = 3 := by omega) <;> first | rfl | omega)
          exact tail0 hw hx hZ hby hml hret hlk hown hnm p0 p1 p2 h0 n0 nn rg b92 b111 b132 b167 kf gi kg (own_mono X286 (by decide) (by decide)) e286 N286 z290 hnn hrg hz hkf hgi hkg f287 f288 f289 f301
      · skip
        refine own_Go.of (S' := (T167.setTop (mkF m 205 #[.val (.int p0), .val (.int p1), .val (.int p2), .val (.int (Int32.ofNat nn)), .val (.int (Int32.ofNat rg)), .val (.ref b92), .val (.ref b111), .val (.ref b132), .val (.ref b167), .unset] [(.int (3 : Int32)), (.int (Int32.ofNat nn))]))) (fun t kt => ?_) ?_
        · show Steps p.tables e below (T167.setTop (mkF m 192 #[.val (.int p0), .val (.int p1), .val (.int p2), .val (.int (Int32.ofNat nn)), .val (.int (Int32.ofNat rg)), .val (.ref b92), .val (.ref b111), .val (.ref b132), .val (.ref b167), .unset] [(.int (2 : Int32)), (.int (Int32.ofNat nn))])) _
          refine XS.icmpYes X167.here hx rfl (pc0 := 192) (pc' := 203) rfl (own_hb hby at_192) rfl (flt (fun q => hc192_284 ((own_ltN (by omega) (by omega)).mp q))).2.2.2 (by decide) (by decide) ?_
          show Steps p.tables e below (T167.setTop (mkF m 203 #[.val (.int p0), .val (.int p1), .val (.int p2), .val (.int (Int32.ofNat nn)), .val (.int (Int32.ofNat rg)), .val (.ref b92), .val (.ref b111), .val (.ref b132), .val (.ref b167), .unset] [])) _
          refine XS.iloadN X167.here hx rfl (own_hb hby at_203) rfl ?_
          show Steps p.tables e below (T167.setTop (mkF m 204 #[.val (.int p0), .val (.int p1), .val (.int p2), .val (.int (Int32.ofNat nn)), .val (.int (Int32.ofNat rg)), .val (.ref b92), .val (.ref b111), .val (.ref b132), .val (.ref b167), .unset] [(.int (Int32.ofNat nn))])) _
          refine XS.iconst X167.here hx rfl (own_hb hby at_204) ?_
          exact kt
        by_cases hc205_302 : 3 < nn
        · skip
          refine own_Go.of (S' := (T167.setTop (mkF m 214 #[.val (.int p0), .val (.int p1), .val (.int p2), .val (.int (Int32.ofNat nn)), .val (.int (Int32.ofNat rg)), .val (.ref b92), .val (.ref b111), .val (.ref b132), .val (.ref b167), .unset] [(.int (3 : Int32)), (.ref b111), (.int (3 : Int32)), (.ref b167)]))) (fun t kt => ?_) ?_
          · show Steps p.tables e below (T167.setTop (mkF m 205 #[.val (.int p0), .val (.int p1), .val (.int p2), .val (.int (Int32.ofNat nn)), .val (.int (Int32.ofNat rg)), .val (.ref b92), .val (.ref b111), .val (.ref b132), .val (.ref b167), .unset] [(.int (3 : Int32)), (.int (Int32.ofNat nn))])) _
            refine XS.icmpNo X167.here hx rfl (own_hb hby at_205) rfl (tlt ((own_ltN (by omega) (by omega)).mpr hc205_302)).2.2.2 ?_
            show Steps p.tables e below (T167.setTop (mkF m 208 #[.val (.int p0), .val (.int p1), .val (.int p2), .val (.int (Int32.ofNat nn)), .val (.int (Int32.ofNat rg)), .val (.ref b92), .val (.ref b111), .val (.ref b132), .val (.ref b167), .unset] [])) _
            refine XS.aload X167.here hx rfl (own_hb hby at_208) rfl rfl ?_
            show Steps p.tables e below (T167.setTop (mkF m 210 #[.val (.int p0), .val (.int p1), .val (.int p2), .val (.int (Int32.ofNat nn)), .val (.int (Int32.ofNat rg)), .val (.ref b92), .val (.ref b111), .val (.ref b132), .val (.ref b167), .unset] [(.ref b167)])) _
            refine XS.iconst X167.here hx rfl (own_hb hby at_210) ?_
            show Steps p.tables e below (T167.setTop (mkF m 211 #[.val (.int p0), .val (.int p1), .val (.int p2), .val (.int (Int32.ofNat nn)), .val (.int (Int32.ofNat rg)), .val (.ref b92), .val (.ref b111), .val (.ref b132), .val (.ref b167), .unset] [(.int (3 : Int32)), (.ref b167)])) _
            refine XS.aload X167.here hx rfl (own_hb hby at_211) rfl rfl ?_
            show Steps p.tables e below (T167.setTop (mkF m 213 #[.val (.int p0), .val (.int p1), .val (.int p2), .val (.int (Int32.ofNat nn)), .val (.int (Int32.ofNat rg)), .val (.ref b92), .val (.ref b111), .val (.ref b132), .val (.ref b167), .unset] [(.ref b111), (.int (3 : Int32)), (.ref b167)])) _
            refine XS.iconst X167.here hx rfl (own_hb hby at_213) ?_
            exact kt
          obtain ⟨cl303, Ar303, hin303, hat303⟩ := own_Ar.get (j := (3 : Int32)) (k := 3) f172 ⟨rfl, by decide⟩
          refine own_Go.of (S' := (T167.setTop (mkF m 215 #[.val (.int p0), .val (.int p1), .val (.int p2), .val (.int (Int32.ofNat nn)), .val (.int (Int32.ofNat rg)), .val (.ref b92), .val (.ref b111), .val (.ref b132), .val (.ref b167), .unset] [(.int (Int32.ofNat (gi 3))), (.int (3 : Int32)), (.ref b167)]))) (fun t kt => ?_) ?_
          · show Steps p.tables e below (T167.setTop (mkF m 214 #[.val (.int p0), .val (.int p1), .val (.int p2), .val (.int (Int32.ofNat nn)), .val (.int (Int32.ofNat rg)), .val (.ref b92), .val (.ref b111), .val (.ref b132), .val (.ref b167), .unset] [(.int (3 : Int32)), (.ref b111), (.int (3 : Int32)), (.ref b167)])) _
            refine X167.iaload hx (j := (3 : Int32)) (v := (.int (Int32.ofNat (gi 3)))) (by rw [e167]; exact Ar303.1) (State.isArrayOf_alike hZ.alike Ar303.2.1) Ar303.2.2 hin303 hat303 (g := (mkF m 214 #[.val (.int p0), .val (.int p1), .val (.int p2), .val (.int (Int32.ofNat nn)), .val (.int (Int32.ofNat rg)), .val (.ref b92), .val (.ref b111), .val (.ref b132), .val (.ref b167), .unset] [(.int (3 : Int32)), (.ref b111), (.int (3 : Int32)), (.ref b167)])) rfl rfl (own_hb hby at_214) _ ?_
            exact kt
          obtain ⟨cl304, Ar304, hin304, ub304⟩ := own_Ar.put (j := (3 : Int32)) (k := 3) f175 ⟨rfl, by omega⟩
          obtain ⟨T304, h304, X304, e304, W304, st304⟩ := stI X167 hx hZ e167 Ar304 (j := (3 : Int32)) hin304 (g := (mkF m 215 #[.val (.int p0), .val (.int p1), .val (.int p2), .val (.int (Int32.ofNat nn)), .val (.int (Int32.ofNat rg)), .val (.ref b92), .val (.ref b111), .val (.ref b132), .val (.ref b167), .unset] [(.int (Int32.ofNat (gi 3))), (.int (3 : Int32)), (.ref b167)])) rfl rfl (own_hb hby at_215)
          refine own_Go.of (S' := (T304.setTop (mkF m 216 #[.val (.int p0), .val (.int p1), .val (.int p2), .val (.int (Int32.ofNat nn)), .val (.int (Int32.ofNat rg)), .val (.ref b92), .val (.ref b111), .val (.ref b132), .val (.ref b167), .unset] []))) st304 ?_
          have f305 := f171.other W304 ne168
          have f306 := f172.other W304 ne169
          have f307 := f173.other W304 ne170
          have z308 := Nat.le_trans z174 (Keep.of_wr W304).1
          have f309 : own_Ar Z h304 b167 .int nn (own_I (own_N (own_ns (fun _ => 0) 3 (gi 3)))) := by rw [← own_NI]; exact ub304 rfl W304
          have N304 := Fr.snoc X304 N162 gx167
          have f310 : own_Ar Z h304 b167 .int nn (own_I (own_N gi)) := f309.eqvI (fun j hj => by show Int32.ofNat _ = Int32.ofNat _; congr 1; first | omega | (obtain rfl | rfl | rfl | rfl : j = 0 ∨ j = 1 ∨ j = 2 ∨ j = 3 := by omega) <;> first | rfl | omega)
          exact tail0 hw hx hZ hby hml hret hlk hown hnm p0 p1 p2 h0 n0 nn rg b92 b111 b132 b167 kf gi kg (own_mono X304 (by decide) (by decide)) e304 N304 z308 hnn hrg hz hkf hgi hkg f305 f306 f307 f310
        · skip
          refine own_Go.of (S' := (T167.setTop (mkF m 216 #[.val (.int p0), .val (.int p1), .val (.int p2), .val (.int (Int32.ofNat nn)), .val (.int (Int32.ofNat rg)), .val (.ref b92), .val (.ref b111), .val (.ref b132), .val (.ref b167), .unset] []))) (fun t kt => ?_) ?_
          · show Steps p.tables e below (T167.setTop (mkF m 205 #[.val (.int p0), .val (.int p1), .val (.int p2), .val (.int (Int32.ofNat nn)), .val (.int (Int32.ofNat rg)), .val (.ref b92), .val (.ref b111), .val (.ref b132), .val (.ref b167), .unset] [(.int (3 : Int32)), (.int (Int32.ofNat nn))])) _
            refine XS.icmpYes X167.here hx rfl (pc0 := 205) (pc' := 216) rfl (own_hb hby at_205) rfl (flt (fun q => hc205_302 ((own_ltN (by omega) (by omega)).mp q))).2.2.2 (by decide) (by decide) ?_
            exact kt
          have f311 : own_Ar Z h167 b167 .int nn (own_I (own_N gi)) := f175.eqvI (fun j hj => by show Int32.ofNat _ = Int32.ofNat _; congr 1; first | omega | (obtain rfl | rfl | rfl | rfl : j = 0 ∨ j = 1 ∨ j = 2 ∨ j = 3 := by omega) <;> first | rfl | omega)
          exact tail0 hw hx hZ hby hml hret hlk hown hnm p0 p1 p2 h0 n0 nn rg b92 b111 b132 b167 kf gi kg (own_mono X167 (by decide) (by decide)) e167 N162 z174 hnn hrg hz hkf hgi hkg f171 f172 f173 f311
set_option maxRecDepth 65536 in
set_option maxHeartbeats 40000000 in
theorem comes_1 {Post : Tables → Env → Array Value → State → Outcome → State → Prop} (hpost : ∀ tb e args s v u, (limb_1_1.after args s (.returned v) u = true ∧ limb_1_2.after args s (.returned v) u = true ∧ True) → FrameEnd s (.returned v) u (Jvm.fieldLocs frame_1_writes args s ++ Jvm.arrayLocs frame_1_arrays args s ++ Jvm.staticLocs frame_1_statics s) 24 128 → Post tb e args s (.returned v) u) :
    ArmFor flags0 classFile x code maxLocals ret World_1 tables_1 room_1 Calls_1 rest_1 Pre_1 Post := by
  intro l hfl _ _ p e ha hc hk s m args below hf hA hF happ hP
  obtain ⟨hcalls, hrest, hpre⟩ := hP
  obtain ⟨-, -, -, hnamed, -, -, -, hat⟩ := (Spec.applies_iff hf).mp happ
  obtain ⟨hg, hn⟩ := and_e (Cond.before_iff.mp (show (Jvm.Cond.and given_1 narrow_1).before args s = true from hpre))
  obtain ⟨gc, gr0⟩ := and_e hg
  obtain ⟨ga0, gr1⟩ := and_e gr0
  obtain ⟨ga1, gr2⟩ := and_e gr1
  obtain ⟨w0, w1, w2, rfl⟩ : ∃ w0 w1 w2 : Value, args = #[w0, w1, w2] := by
    have hs : args.size = 3 := by simpa [Cond.value, given_1] using gc
    obtain ⟨L⟩ := args
    match L, hs with
    | [w0, w1, w2], _ => exact ⟨w0, w1, w2, rfl⟩
  have hw := fun d (hd : d ∈ tables_1) => atoms_spec (ws := Jvm.Cond.code x code maxLocals ret :: tables_1) hat d (List.mem_cons_of_mem _ hd)
  have hfit : Fit s := fun {y c} hc i hi => by
    obtain ⟨ha, rfl⟩ := Array.getElem?_eq_some_iff.mp hc
    have q := List.all_eq_true.mp ((Array.all_eq_true_iff_forall_mem.mp hF) _ (Array.getElem_mem ha)) i (List.mem_range.mpr hi)
    simpa [Array.getElem?_eq_getElem hi] using q
  obtain ⟨i0, ei0⟩ := is_v ga0
  obtain rfl : w0 = (.int i0) := Option.some.inj ei0
  obtain ⟨i1, ei1⟩ := is_v ga1
  obtain rfl : w1 = (.int i1) := Option.some.inj ei1
  obtain ⟨i2, ei2⟩ := is_v gr2
  obtain rfl : w2 = (.int i2) := Option.some.inj ei2
  obtain ⟨n, o, h1, h2, h3, _, L, rfl, ⟨rfl, N⟩, hq⟩ := rm0 l s _ hw tables_1 i0 i1 i2 s.heap s.heap.size (Nat.le_refl _)  p e ha hc hk s m _ below hf ((Spec.applies_iff_loose hf).mp happ).1 ⟨rfl, State.Warmed39.refl s, rfl⟩ trivial
  refine ⟨n, _, h1, h2, h3, hpost _ _ _ _ _ _ ⟨Cond.after_iff.mpr rfl, Cond.after_iff.mpr (eq_i res_at (Term.int_eval (1)) rfl), trivial⟩ ⟨hq.1, hq.2.1, (hq.2.2.sift fun y hy => Or.inr (N y hy)).mono (by decide) (by decide)⟩⟩
theorem main_1_1 : Claimed_1_1 := comes_1 fun _ _ _ _ _ _ h hF => ⟨h.1, hF⟩
theorem main_1_2 : Claimed_1_2 := comes_1 fun _ _ _ _ _ _ h hF => ⟨h.2.1, hF⟩
end Jvm.Pilot.@@N@@
namespace Jvm.Pilot.@@N@@
open Jvm Jvm.ClassFile Sem Op Lib Jvm.Free Jvm.Stand Jvm.Pilot.@@N@@.Jvm.D
/-! MADE BY PROGRAM (witnessworld.py) out of the Statement's table words and the real class files: 9 classes; the members and pool entries that the words name. The judged class is class 1, her method 4. -/
namespace start1
open Jvm.ClassFile
def u (s : String) : CpInfo := .utf8 (stringToUtf16 s)
/-- a pool by its gaps: so many unusable entries, then the entry; so many at the end -/
def gap : Nat → List CpInfo → List CpInfo
  | 0, r => r
  | n + 1, r => .unusable :: gap n r
def poolList (es : List (Nat × CpInfo)) (last : Nat) : List CpInfo := es.foldr (fun e r => gap e.1 (e.2 :: r)) (gap last [])
def pool (es : List (Nat × CpInfo)) (last : Nat) : Array CpInfo := ⟨poolList es last⟩
def fileOf (pool : Array CpInfo) (this : Nat) (attrs : Array Attribute := #[]) (ms : Array MethodInfo := #[]) (fl : Nat := 33) (sup : Nat := 0) (ifs : Array Nat := #[]) (fds : Array FieldInfo := #[]) : ClassFile where
  minorVersion := 0
  majorVersion := 65
  constantPool := pool
  accessFlags := fl
  thisClass := this
  superClass := sup
  interfaces := ifs
  fields := fds
  methods := ms
  attributes := attrs
def plain (name : String) (sup : Option ClassId) : Class where
  name := name
  kind := .ordinary
  loader := none
  accessFlags := 33
  super := sup
  interfaces := #[]
  cf := none
  fields := #[]
  methods := #[]
  instanceTypes := #[]
  staticTypes := #[]
  resolved := #[]
  callSites := []
  init := .initialized
  statics := none
  mirror := none

def pool0 : Array CpInfo := pool [(5, u "<init>"), (0, u "()V"), (1, .class_ 10), (1, u "java/lang/Object")] 113

def k0m0 : Method := { name := "<init>", desc := "()V", sig := { parameters := [], returnType := none }, accessFlags := 1, code := none }
/-- java/lang/Object -/
def k0 : Class := { plain "java/lang/Object" none with
  accessFlags := 33
  interfaces := #[]
  cf := some (fileOf pool0 8 #[] #[{ accessFlags := 1, nameIndex := 5, descriptorIndex := 6, attributes := #[] }] 33 0 #[] #[])
  fields := #[]
  methods := #[k0m0]
  instanceTypes := #[]
  staticTypes := #[]
  resolved := Array.replicate 124 none
  statics := none }

def pool1 : Array CpInfo := pool [(2, .class_ 4), (1, u "java/lang/Object"), (0, u "<init>"), (0, u "()V"), (0, .methodref 8 9), (0, .class_ 10), (0, .nameAndType 11 12), (0, u "com/example/sagasu/sagasu/CountingSortByKeyPinLaw"), (0, u "before"), (0, u "([IIII)I"), (0, .methodref 8 14), (0, .nameAndType 15 16), (0, u "key"), (0, u "(III)I"), (0, .methodref 18 19), (0, .class_ 20), (0, .nameAndType 21 22), (0, u "com/example/sagasu/sagasu/CountingSort"), (0, u "byKey"), (0, u "([I[II)[I"), (0, .methodref 8 24), (0, .nameAndType 25 26), (0, u "placed"), (0, u "([I[I[III)Z"), (3, u "law"), (0, u "(III)Z")] 4

def k1m0 : Method := { name := "<init>", desc := "()V", sig := { parameters := [], returnType := none }, accessFlags := 2, code := none }
def k1c1 : Code := { maxStack := 3, maxLocals := 4, code := method_2_code, exceptionTable := #[], attributes := #[] }
def k1m1 : Method := { name := "before", desc := "([IIII)I", sig := { parameters := [(.array .int), .int, .int, .int], returnType := some .int }, accessFlags := 10, code := some k1c1 }
def k1c2 : Code := { maxStack := 5, maxLocals := 6, code := method_3_code, exceptionTable := #[], attributes := #[] }
def k1m2 : Method := { name := "placed", desc := "([I[I[III)Z", sig := { parameters := [(.array .int), (.array .int), (.array .int), .int, .int], returnType := some .boolean }, accessFlags := 10, code := some k1c2 }
def k1c3 : Code := { maxStack := 3, maxLocals := 3, code := method_4_code, exceptionTable := #[], attributes := #[] }
def k1m3 : Method := { name := "key", desc := "(III)I", sig := { parameters := [.int, .int, .int], returnType := some .int }, accessFlags := 10, code := some k1c3 }
def k1c4 : Code := { maxStack := 5, maxLocals := 10, code := code, exceptionTable := #[], attributes := #[] }
def k1m4 : Method := { name := "law", desc := "(III)Z", sig := { parameters := [.int, .int, .int], returnType := some .boolean }, accessFlags := 9, code := some k1c4 }
/-- com/example/sagasu/sagasu/CountingSortByKeyPinLaw -/
def k1 : Class := { plain "com/example/sagasu/sagasu/CountingSortByKeyPinLaw" (some 0) with
  accessFlags := 49
  interfaces := #[]
  cf := some (fileOf pool1 8 #[] #[{ accessFlags := 2, nameIndex := 5, descriptorIndex := 6, attributes := #[] }, { accessFlags := 10, nameIndex := 11, descriptorIndex := 12, attributes := #[] }, { accessFlags := 10, nameIndex := 25, descriptorIndex := 26, attributes := #[] }, { accessFlags := 10, nameIndex := 15, descriptorIndex := 16, attributes := #[] }, { accessFlags := 9, nameIndex := 30, descriptorIndex := 31, attributes := #[] }] 49 2 #[] #[])
  fields := #[]
  methods := #[k1m0, k1m1, k1m2, k1m3, k1m4]
  instanceTypes := #[]
  staticTypes := #[]
  resolved := Array.replicate 36 none
  statics := none }

def pool2 : Array CpInfo := pool [(2, .class_ 4), (1, u "java/lang/Object"), (0, u "<init>"), (0, u "()V"), (0, .class_ 8), (0, u "com/example/sagasu/sagasu/CountingSort"), (2, u "byKey"), (0, u "([I[II)[I")] 5

def k2m0 : Method := { name := "<init>", desc := "()V", sig := { parameters := [], returnType := none }, accessFlags := 2, code := none }
def k2c1 : Code := { maxStack := 6, maxLocals := 9, code := prog_7_method_2_code, exceptionTable := #[], attributes := #[] }
def k2m1 : Method := { name := "byKey", desc := "([I[II)[I", sig := { parameters := [(.array .int), (.array .int), .int], returnType := some (.array .int) }, accessFlags := 8, code := some k2c1 }
/-- com/example/sagasu/sagasu/CountingSort -/
def k2 : Class := { plain "com/example/sagasu/sagasu/CountingSort" (some 0) with
  accessFlags := 48
  interfaces := #[]
  cf := some (fileOf pool2 7 #[] #[{ accessFlags := 2, nameIndex := 5, descriptorIndex := 6, attributes := #[] }, { accessFlags := 8, nameIndex := 11, descriptorIndex := 12, attributes := #[] }] 48 2 #[] #[])
  fields := #[]
  methods := #[k2m0, k2m1]
  instanceTypes := #[]
  staticTypes := #[]
  resolved := Array.replicate 18 none
  statics := none }

def pool3 : Array CpInfo := pool [(1, u "java/lang/Cloneable"), (0, .class_ 1), (0, u "java/lang/Object"), (0, .class_ 3)] 3

/-- java/lang/Cloneable -/
def k3 : Class := { plain "java/lang/Cloneable" (some 0) with
  accessFlags := 1537
  interfaces := #[]
  cf := some (fileOf pool3 2 #[] #[] 1537 4 #[] #[])
  fields := #[]
  methods := #[]
  instanceTypes := #[]
  staticTypes := #[]
  resolved := Array.replicate 8 none
  statics := none }

def pool4 : Array CpInfo := pool [(1, u "java/io/Serializable"), (0, .class_ 1), (0, u "java/lang/Object"), (0, .class_ 3)] 3

/-- java/io/Serializable -/
def k4 : Class := { plain "java/io/Serializable" (some 0) with
  accessFlags := 1537
  interfaces := #[]
  cf := some (fileOf pool4 2 #[] #[] 1537 4 #[] #[])
  fields := #[]
  methods := #[]
  instanceTypes := #[]
  staticTypes := #[]
  resolved := Array.replicate 8 none
  statics := none }

/-- the primitive byte -/
def k5 : Class := { plain "byte" none with kind := .primitive 'B', accessFlags := 0x411 }
/-- [B -/
def k6 : Class := { plain "[B" (some 0) with kind := .array 5 .byte, interfaces := #[3, 4], accessFlags := 1041 }

/-- the primitive int -/
def k7 : Class := { plain "int" none with kind := .primitive 'I', accessFlags := 0x411 }
/-- [I -/
def k8 : Class := { plain "[I" (some 0) with kind := .array 7 .int, interfaces := #[3, 4], accessFlags := 1041 }

def heap : Heap := #[]
def classes : Array Class := #[k0, k1, k2, k3, k4, k5, k6, k7, k8]
def interned : List (Array UInt16 × Addr) := []
def slotsUsed : Nat := 0
def theMethod : MethodId := ⟨1, 4⟩
def args0 : Array Value := #[.int 12, .int 123456, .int 27]
def aboutOver (below : List Frame) : State where
  vm := { classes := classes, interned := interned.toArray }
  heap := heap
  slotsUsed := slotsUsed
  threads := #[{ frames := .invoking theMethod args0 :: below }]
def below0 : List Frame := [.native { method := ⟨0, 0⟩, args := #[] }]
def about1 : State := aboutOver below0
def p0 : Program := .bare "" "" ""
def e0 : Env := launch0.env 0 0 0
theorem w_frames : about1.frames = Frame.invoking theMethod args0 :: below0 := rfl
set_option maxRecDepth 65536 in
theorem w_args : argsFit about1.vm theMethod args0 = true := by decide +kernel
set_option maxRecDepth 65536 in
theorem w_heap : heapFits about1 = true := by decide +kernel
set_option maxRecDepth 65536 in
theorem w_runnable : about1.curStatus? = some .runnable := by decide +kernel
set_option maxRecDepth 65536 in
theorem w_alone : about1.alone = true := by decide +kernel
set_option maxRecDepth 65536 in
theorem w_named : about1.methodNamed? x = some theMethod := by decide +kernel
set_option maxRecDepth 65536 in
theorem w_hears : about1.hears theMethod below0 = true := by decide +kernel
set_option maxRecDepth 65536 in
theorem w_ripe : about1.ripe theMethod args0 below0 = true := by decide +kernel
theorem w_running : about1.status = .running := rfl
set_option maxRecDepth 65536 in
theorem w_room : about1.hasRoom e0.platform room_1 = true :=
  launch0.hasRoom_least _ room_1 (by decide +kernel) (by decide +kernel) (by decide +kernel) (by decide +kernel) (by decide +kernel) (by decide +kernel)
theorem allAtoms_all (ts : List Jvm.Cond) (a : Array Jvm.Value) (st : Jvm.State) : (allAtoms ts).before a st = ts.all (fun c => c.before a st) := by
  induction ts with
  | nil => rfl
  | cons c t ih =>
    show (Jvm.Cond.and c (allAtoms t)).before a st = _
    rw [Jvm.Cond.before_and, ih, List.all_cons]
def words1 : List Jvm.Cond := Jvm.Cond.code x code maxLocals ret :: tables_1
/-- a 'code' word, met by the world's own term for the bytes: nothing is compared byte by byte -/
theorem code_word {y : MethodName} {bytes : ByteArray} {mx : Nat} {rt : Option FieldType} {a : Array Value} {s : State} {m : MethodId} {meth : Method} {c : Code} (h1 : s.methodNamed? y = some m) (h2 : s.vm.method? m = some meth) (h3 : meth.code = some c) (h4 : c.code = bytes)
    (h5 : (c.maxLocals == mx && c.exceptionTable.isEmpty && decide (c.maxStack ≤ mostOperands) && decide (meth.sig.returnType = rt) && !meth.locks && decide (parseMethodDescriptor y.desc = some meth.sig)) = true) : (Jvm.Cond.code y bytes mx rt).before a s = true := by
  simp only [Bool.and_eq_true, beq_iff_eq, Bool.not_eq_true', decide_eq_true_eq] at h5
  obtain ⟨⟨⟨⟨⟨g1, g2⟩, g3⟩, g4⟩, g5⟩, g6⟩ := h5
  simp [Cond.before, Cond.holds, Cond.value, h1, h2, h3, h4, g1, g2, g3, g4, g5, g6]
def isCode : Jvm.Cond → Bool
  | .code _ _ _ _ => true
  | _ => false
theorem all_split {L : List Jvm.Cond} {P : Jvm.Cond → Bool} (h1 : L.all (fun c => isCode c || P c) = true) (h2 : ∀ c ∈ L.filter isCode, P c = true) : L.all P = true := by
  refine List.all_eq_true.mpr fun c hc => ?_
  have h := List.all_eq_true.mp h1 c hc
  rcases Bool.eq_false_or_eq_true (isCode c) with hi | hi
  · exact h2 c (List.mem_filter.mpr ⟨hc, hi⟩)
  · simpa [hi] using h
set_option maxRecDepth 65536 in
theorem w_c0 : (Jvm.Cond.code x code maxLocals ret).before args0 about1 = true := code_word (m := ⟨1, 4⟩) (meth := k1m4) (c := k1c4) (by decide +kernel) rfl rfl rfl (by decide +kernel)
set_option maxRecDepth 65536 in
theorem w_c1 : (Jvm.Cond.code ({ cls := "com/example/sagasu/sagasu/CountingSortByKeyPinLaw", name := "key", desc := "(III)I" } : Jvm.MethodName) method_4_code (3 : Nat) (Option.some Jvm.ClassFile.FieldType.int)).before args0 about1 = true := code_word (m := ⟨1, 3⟩) (meth := k1m3) (c := k1c3) (by decide +kernel) rfl rfl rfl (by decide +kernel)
set_option maxRecDepth 65536 in
theorem w_c2 : (Jvm.Cond.code ({ cls := "com/example/sagasu/sagasu/CountingSort", name := "byKey", desc := "([I[II)[I" } : Jvm.MethodName) prog_7_method_2_code (9 : Nat) (Option.some (Jvm.ClassFile.FieldType.array Jvm.ClassFile.FieldType.int))).before args0 about1 = true := code_word (m := ⟨2, 1⟩) (meth := k2m1) (c := k2c1) (by decide +kernel) rfl rfl rfl (by decide +kernel)
set_option maxRecDepth 65536 in
theorem w_c3 : (Jvm.Cond.code ({ cls := "com/example/sagasu/sagasu/CountingSortByKeyPinLaw", name := "placed", desc := "([I[I[III)Z" } : Jvm.MethodName) method_3_code (6 : Nat) (Option.some Jvm.ClassFile.FieldType.boolean)).before args0 about1 = true := code_word (m := ⟨1, 2⟩) (meth := k1m2) (c := k1c2) (by decide +kernel) rfl rfl rfl (by decide +kernel)
set_option maxRecDepth 65536 in
theorem w_c4 : (Jvm.Cond.code ({ cls := "com/example/sagasu/sagasu/CountingSortByKeyPinLaw", name := "before", desc := "([IIII)I" } : Jvm.MethodName) method_2_code (4 : Nat) (Option.some Jvm.ClassFile.FieldType.int)).before args0 about1 = true := code_word (m := ⟨1, 1⟩) (meth := k1m1) (c := k1c1) (by decide +kernel) rfl rfl rfl (by decide +kernel)
def codes1 : List Jvm.Cond := [Jvm.Cond.code x code maxLocals ret, Jvm.Cond.code ({ cls := "com/example/sagasu/sagasu/CountingSortByKeyPinLaw", name := "key", desc := "(III)I" } : Jvm.MethodName) method_4_code (3 : Nat) (Option.some Jvm.ClassFile.FieldType.int), Jvm.Cond.code ({ cls := "com/example/sagasu/sagasu/CountingSort", name := "byKey", desc := "([I[II)[I" } : Jvm.MethodName) prog_7_method_2_code (9 : Nat) (Option.some (Jvm.ClassFile.FieldType.array Jvm.ClassFile.FieldType.int)), Jvm.Cond.code ({ cls := "com/example/sagasu/sagasu/CountingSortByKeyPinLaw", name := "placed", desc := "([I[I[III)Z" } : Jvm.MethodName) method_3_code (6 : Nat) (Option.some Jvm.ClassFile.FieldType.boolean), Jvm.Cond.code ({ cls := "com/example/sagasu/sagasu/CountingSortByKeyPinLaw", name := "before", desc := "([IIII)I" } : Jvm.MethodName) method_2_code (4 : Nat) (Option.some Jvm.ClassFile.FieldType.int)]
set_option maxRecDepth 65536 in
theorem codes_eq : words1.filter isCode = codes1 := rfl
theorem w_codes : ∀ c ∈ words1.filter isCode, c.before args0 about1 = true := by
  rw [codes_eq]
  intro c hc
  simp only [codes1, List.mem_cons, List.not_mem_nil, or_false] at hc
  rcases hc with rfl | rfl | rfl | rfl | rfl
  · exact w_c0
  · exact w_c1
  · exact w_c2
  · exact w_c3
  · exact w_c4
set_option maxRecDepth 65536 in
theorem w_t1 : words1.all (fun c => isCode c || c.before args0 about1) = true := by decide +kernel
theorem w_tables : (allAtoms (Jvm.Cond.code x code maxLocals ret :: tables_1)).before args0 about1 = true := by
  rw [allAtoms_all]
  show words1.all (fun c => c.before args0 about1) = true
  refine all_split ?_ w_codes
  rw [w_t1]
set_option maxRecDepth 65536 in
theorem w_case : (Jvm.Cond.and given_1 narrow_1).before args0 about1 = true := by decide +kernel
theorem w_applies : (headSpec (Jvm.Cond.code x code maxLocals ret :: tables_1) room_1).applies x e0.platform about1 = true :=
  (Spec.applies_iff w_frames).mpr ⟨w_running, w_runnable, w_alone, w_named, w_hears, w_ripe, w_room, w_tables⟩
theorem atStart : AtStart classFile x code maxLocals ret World_1 tables_1 room_1 Calls_1 rest_1 Pre_1 launch0 p0 e0 about1 theMethod args0 below0 :=
  ⟨lists_1, trivial, launch0.admits_env _ _ _, launch0.least_env, fairChoices_fair.cas, fairChoices_fair.clock, w_frames, w_args, w_heap, w_applies, trivial, trivial, w_case⟩
end start1
theorem witness_1 : WitnessClaimed_1 := ⟨start1.p0, start1.e0, start1.about1, start1.theMethod, start1.args0, start1.below0, start1.atStart⟩
end Jvm.Pilot.@@N@@
