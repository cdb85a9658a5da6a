import JvmDerived
import JvmDerived.Pilot.@@N@@Statement
import JvmDerived.Pilot.@@N@@Code
set_option linter.unusedVariables false
set_option linter.unusedSimpArgs false
namespace Jvm.Pilot.@@N@@
open Jvm Jvm.ClassFile Sem Op Lib Jvm.Free Jvm.Stand Jvm.LawKit Jvm.RoadKit Bundle Jvm.Pilot.@@N@@.Jvm.D
section Own
variable {p : Program} {l : Launch} {e : Env} {R : Room} {s : State} {m : MethodId} {args : Array Value} {below : List Frame} {meth : Method} {c : Code} {T : State} {locs : List Loc} {cells slots : Nat} {Z : State} {a0 : Array Value} {h h' : Heap}
theorem own_hb {c : ClassFile.Code} {code : ByteArray} (h : c.code = code) {pc : Nat} {r : Except ClassFile.DecodeError (ClassFile.Instr × Nat)} (h2 : ClassFile.decode code pc = r) : ClassFile.decode c.code pc = r := h ▸ h2
/-- from S the run comes to an end of the method of which QQ holds -/
def own_Go (p : Program) (e : Env) (below : List Frame) (S : State) (QQ : Outcome → State → Prop) : Prop :=
  ∃ s₂ o, Steps p.tables e below S s₂ ∧ s₂.status = .running ∧ Ended s₂ below o ∧ QQ o s₂
theorem own_Go.of {S S' : State} {QQ : Outcome → State → Prop} (h : ∀ t, Steps p.tables e below S' t → Steps p.tables e below S t) (g : own_Go p e below S' QQ) : own_Go p e below S QQ := by
  obtain ⟨a, b, h1, h2⟩ := g
  exact ⟨a, b, h _ h1, h2⟩
/-- how a walked body ends: it returns v, with Q of the value, the heap and the places written -/
def own_End (s : State) (Q : Option Value → Heap → List Loc → Prop) (C K : Nat) : Outcome → State → Prop :=
  fun o U' => ∃ v L, o = .returned v ∧ Q v U'.heap L ∧ FrameEnd s o U' L C K
/-- the contract of a body, as RoadKit.backOf takes it -/
abbrev own_Met (l : Launch) (Z : State) (h0 : Heap) (y : MethodName) (bytes : ByteArray) (maxL : Nat) (ret : Option FieldType) (ws : List Jvm.Cond) (rm : Room) (as' : Array Value) (Q : Option Value → Heap → List Loc → Prop) : Prop :=
  MetFree l y (head1 (Jvm.Cond.code y bytes maxL ret :: ws) rm) (fun a U => a = as' ∧ Z.Warmed39 U.vm ∧ U.heap = h0) (fun _ _ _ _ _ => True) (fun _ U o U' => ∃ v L, o = .returned v ∧ Q v U'.heap L ∧ FrameEnd U o U' L rm.cells rm.slots)
theorem own_enter {h0 : Heap} {y : MethodName} {bytes : ByteArray} {maxL : Nat} {ret : Option FieldType} {ws : List Jvm.Cond} {rm : Room} {as' : Array Value} {Q : Option Value → Heap → List Loc → Prop} (hpl : plainFor y = true)
    (body : ∀ (p : Program) (e : Env) (s : State) (m : MethodId) (below : List Frame) (meth : Method) (c : Code) (T0 : State), Stand p l e rm s m as' below meth c T0 [] 0 0 → p.tables.exec = Jvm.exec → c.code = bytes → c.maxLocals = maxL → meth.sig.returnType = ret → meth.locks = false → s.vm.findClass y.cls = some m.cls → meth.name = y.name → Z.Warmed39 s.vm → T0.heap = h0 →
      own_Go p e below (T0.setTop (entryFrame m as' maxL)) (own_End s Q rm.cells rm.slots)) : own_Met l Z h0 y bytes maxL ret ws rm as' Q := by
  refine MetFree.of_bodySF hpl hisR ?_
  intro p e s m args below meth c s₁ Bd hml0 hP hK
  obtain ⟨rfl, hZ, hh⟩ := hP
  exact body p e s m below meth c s₁ (Stand.of_body Bd) Bd.exec Bd.bytes hml0 Bd.returns Bd.notSynchronized (findClass_of_methodNamed Bd.named) (name_of_methodNamed Bd.named Bd.method).1 hZ (by rw [← hh, Bd.state]; rfl)
theorem own_mono (X : Stand p l e R s m args below meth c T locs cells slots) {c' k' : Nat} (hc : cells ≤ c') (hk : slots ≤ k') : Stand p l e R s m args below meth c T locs c' k' :=
  ⟨X.admits, X.cas, X.clock, X.frames, X.room, X.hears, X.method, X.code, X.here, X.tail, X.warmed, X.limits, X.bytes, X.same.mono hc hk⟩
theorem own_leave (X : Stand p l e R s m args below meth c T locs cells slots) (hlk : meth.locks = false) {v : Option Value} {Q : Option Value → Heap → List Loc → Prop} {C K : Nat} {g : JFrame} (hv : meth.sig.returnType = none → v = none)
    (st : ∀ fs, (∀ (f : JFrame) (acts : List Action), f.method = m → f.locked = none → f.entered = [] → (doReturn e (T.setTop f) acts v).1 = T.setFrames fs) → Steps p.tables e below (T.setTop g) (T.setFrames fs))
    (eT : T.heap = h) (hQ : Q v h locs) (hc : cells ≤ C) (hk : slots ≤ K) : own_Go p e below (T.setTop g) (own_End s Q C K) := by
  obtain ⟨fs, hr, hrun, hended, hW, hsame⟩ := X.leave (v := v) hv hlk
  subst eT
  exact ⟨_, _, st fs hr, hrun, hended, v, locs, rfl, hQ, ⟨_, rfl⟩, hW, hsame.mono hc hk⟩
theorem own_retI (X : Stand p l e R s m args below meth c T locs cells slots) (hx : p.tables.exec = Jvm.exec) (hlk : meth.locks = false) {pc : Nat} {Ls : Array Slot} {z : Int32} {rest : List Value} {Q : Option Value → Heap → List Loc → Prop} {C K : Nat} (hret : meth.sig.returnType = some .int) (hd : decode c.code pc = .ok (.ireturn, 1))
    (eT : T.heap = h) (hQ : Q (some (.int z)) h locs) (hc : cells ≤ C) (hk : slots ≤ K) : own_Go p e below (T.setTop (mkF m pc Ls (.int z :: rest))) (own_End s Q C K) := by
  refine own_leave X hlk (fun q => by rw [hret] at q; cases q) (fun fs hl => ?_) eT hQ hc hk
  have hm' : T.vm.method? m = some meth := X.method'
  have hn : narrow .int (.int z) = .int z := rfl
  show Steps p.tables e below (T.setTop { method := m, pc := pc, locals := Ls, stack := _ :: rest, locked := none }) _
  jvm_step X.here [X.here.top, hx, hd, hm', hret, hn]
  first | (intro acts; rw [hl _ acts rfl rfl rfl]) | rw [hl _ _ rfl rfl rfl]
  exact Steps.refl _
theorem own_retN (X : Stand p l e R s m args below meth c T locs cells slots) (hx : p.tables.exec = Jvm.exec) (hlk : meth.locks = false) {pc : Nat} {Ls : Array Slot} {z : Int32} {t : FieldType} {rest : List Value} {Q : Option Value → Heap → List Loc → Prop} {C K : Nat} (hret : meth.sig.returnType = some t) (ht : t = .boolean ∨ t = .byte ∨ t = .char ∨ t = .short) (hd : decode c.code pc = .ok (.ireturn, 1))
    (eT : T.heap = h) (hQ : Q (some (.int (nar t z))) h locs) (hc : cells ≤ C) (hk : slots ≤ K) : own_Go p e below (T.setTop (mkF m pc Ls (.int z :: rest))) (own_End s Q C K) :=
  own_leave X hlk (fun q => by rw [hret] at q; cases q) (fun fs hl => retN X hx hret ht hd hl) eT hQ hc hk
theorem own_retV (X : Stand p l e R s m args below meth c T locs cells slots) (hx : p.tables.exec = Jvm.exec) (hlk : meth.locks = false) {pc : Nat} {Ls : Array Slot} {Q : Option Value → Heap → List Loc → Prop} {C K : Nat} (hret : meth.sig.returnType = none) (hd : decode c.code pc = .ok (.return_, 1))
    (eT : T.heap = h) (hQ : Q none h locs) (hc : cells ≤ C) (hk : slots ≤ K) : own_Go p e below (T.setTop (mkF m pc Ls [])) (own_End s Q C K) :=
  own_leave X hlk (fun _ => rfl) (fun fs hl => X.returnOut hx hret hd hl) eT hQ hc hk
theorem own_retJ (X : Stand p l e R s m args below meth c T locs cells slots) (hx : p.tables.exec = Jvm.exec) (hlk : meth.locks = false) {pc : Nat} {Ls : Array Slot} {z : Int64} {Q : Option Value → Heap → List Loc → Prop} {C K : Nat} (hret : meth.sig.returnType = some .long) (hd : decode c.code pc = .ok (.lreturn, 1))
    (eT : T.heap = h) (hQ : Q (some (.long z)) h locs) (hc : cells ≤ C) (hk : slots ≤ K) : own_Go p e below (T.setTop (mkF m pc Ls [.long z])) (own_End s Q C K) :=
  own_leave X hlk (fun q => by rw [hret] at q; cases q) (fun fs hl => X.lreturnOut hx hret hd hl) eT hQ hc hk
theorem own_retA (X : Stand p l e R s m args below meth c T locs cells slots) (hx : p.tables.exec = Jvm.exec) (hlk : meth.locks = false) {pc : Nat} {Ls : Array Slot} {v : Value} {t : FieldType} {rest : List Value} {Q : Option Value → Heap → List Loc → Prop} {C K : Nat} (hret : meth.sig.returnType = some t) (ht : t.isReference = true) (hv : v.isRef = true) (hd : decode c.code pc = .ok (.areturn, 1))
    (eT : T.heap = h) (hQ : Q (some v) h locs) (hc : cells ≤ C) (hk : slots ≤ K) : own_Go p e below (T.setTop (mkF m pc Ls (v :: rest))) (own_End s Q C K) := by
  refine own_leave X hlk (fun q => by rw [hret] at q; cases q) (fun fs hl => ?_) eT hQ hc hk
  have hm' : T.vm.method? m = some meth := X.method'
  show Steps p.tables e below (T.setTop { method := m, pc := pc, locals := Ls, stack := _ :: rest, locked := none }) _
  jvm_step X.here [X.here.top, hx, hd, hm', hret, ht, hv]
  first | (intro acts; rw [hl _ acts rfl rfl rfl]) | rw [hl _ _ rfl rfl rfl]
  exact Steps.refl _
/-! an array whose place i holds f i -/
def own_Ar (Z : State) (h : Heap) (a : Addr) (ty : FieldType) (n : Nat) (f : Nat → Value) : Prop :=
  n < 2 ^ 31 ∧ ∃ c : Cell, Arr Z h a c ty ∧ c.slots.size = n ∧ ∀ i, i < n → c.slots[i]? = some (f i) ∧ fits ty (f i) = true
def own_up (f : Nat → Value) (k : Nat) (v : Value) : Nat → Value := fun i => if i = k then v else f i
def own_I (g : Nat → Int32) : Nat → Value := fun j => .int (g j)
def own_set (g : Nat → Int32) (k : Nat) (x : Int32) : Nat → Int32 := fun j => if j = k then x else g j
theorem own_upI {g : Nat → Int32} {k : Nat} {x : Int32} : own_up (own_I g) k (.int x) = own_I (own_set g k x) := by
  funext j
  unfold own_up own_I own_set
  by_cases q : j = k
  · rw [if_pos q, if_pos q]
  · rw [if_neg q, if_neg q]
section Arrays
variable {a b : Addr} {ty : FieldType} {n k : Nat} {f : Nat → Value} {v : Value} {ws : List Addr} {sl : Nat} {j : Int32}
theorem own_Ar.lt (F : own_Ar Z h a ty n f) : a < h.size := by obtain ⟨_, c, A, _⟩ := F; exact A.lt
theorem own_Ar.ext (F : own_Ar Z h a ty n f) (E : Ext h h') : own_Ar Z h' a ty n f := by obtain ⟨q, c, A, r⟩ := F; exact ⟨q, c, A.ext E, r⟩
theorem own_Ar.other (F : own_Ar Z h b ty n f) (W : Wr h h' a sl v) (q : b ≠ a) : own_Ar Z h' b ty n f := by obtain ⟨q0, c, A, r⟩ := F; exact ⟨q0, c, A.other W q, r⟩
theorem own_Ar.keep (F : own_Ar Z h a ty n f) (K : Keep h h' ws) (q : a ∉ ws) : own_Ar Z h' a ty n f := by obtain ⟨q0, c, A, r⟩ := F; exact ⟨q0, c, ⟨K.2.1 a c A.1 q, A.2⟩, r⟩
theorem own_Ar.eqv {g : Nat → Value} (F : own_Ar Z h a ty n f) (q : ∀ i, i < n → f i = g i) : own_Ar Z h a ty n g := by
  obtain ⟨q0, c, A, r1, r2⟩ := F; exact ⟨q0, c, A, r1, fun i hi => by rw [← q i hi]; exact r2 i hi⟩
theorem own_Ar.eqvI {g g' : Nat → Int32} (F : own_Ar Z h a ty n (own_I g)) (q : ∀ i, i < n → g i = g' i) : own_Ar Z h a ty n (own_I g') := F.eqv fun i hi => by show Value.int _ = Value.int _; rw [q i hi]
theorem own_clamp (hk : k < 2 ^ 31) : (Int32.ofNat k).toNatClampNeg = k ∧ ¬ Int32.ofNat k < 0 := by
  have e : (Int32.ofNat k).toInt = (k : Int) := Int32.toInt_ofNat_of_lt hk
  refine ⟨?_, ?_⟩
  · show (Int32.ofNat k).toInt.toNat = k
    rw [e]; rfl
  · rw [Int32.lt_iff_toInt_lt, e]
    show ¬ ((k : Int) < 0)
    omega
theorem own_inb {cl : Cell} (S : cl.slots.size = n) (hn : n < 2 ^ 31) (e : j = Int32.ofNat k) (hk : k < n) : ¬ (j < 0 ∨ cl.slots.size ≤ j.toNatClampNeg) := by
  subst e
  obtain ⟨e1, e2⟩ := own_clamp (k := k) (by omega)
  rw [e1, S]
  rintro (q | q)
  · exact e2 q
  · omega
theorem own_Ar.get (F : own_Ar Z h a ty n f) (q : j = Int32.ofNat k ∧ k < n) : ∃ cl : Cell, Arr Z h a cl ty ∧ ¬ (j < 0 ∨ cl.slots.size ≤ j.toNatClampNeg) ∧ cl.slots[j.toNatClampNeg]? = some (f k) := by
  obtain ⟨hn, c, A, S, H⟩ := F
  refine ⟨c, A, own_inb S hn q.1 q.2, ?_⟩
  rw [q.1, (own_clamp (k := k) (by omega)).1]
  exact (H k q.2).1
theorem own_Ar.len (F : own_Ar Z h a ty n f) : ∃ cl : Cell, Arr Z h a cl ty ∧ cl.slots.size.toInt32 = Int32.ofNat n := by
  obtain ⟨hn, c, A, S, H⟩ := F
  refine ⟨c, A, ?_⟩
  rw [S]
theorem own_Ar.put (F : own_Ar Z h a ty n f) (q : j = Int32.ofNat k ∧ k < n) : ∃ cl : Cell, Arr Z h a cl ty ∧ ¬ (j < 0 ∨ cl.slots.size ≤ j.toNatClampNeg) ∧ ∀ {v : Value} {h' : Heap}, fits ty v = true → Wr h h' a j.toNatClampNeg v → own_Ar Z h' a ty n (own_up f k v) := by
  obtain ⟨hn, c, A, S, H⟩ := F
  refine ⟨c, A, own_inb S hn q.1 q.2, fun {v h'} hv W => ⟨hn, _, A.same W, by rw [sz_set]; exact S, fun i hi => ?_⟩⟩
  rw [q.1, (own_clamp (k := k) (by omega)).1]
  by_cases u : i = k
  · subst u
    simp [own_up, Cell.setSlot, S, hi, hv]
  · have u' : ¬ k = i := fun z => u z.symm
    simp only [own_up, u, if_false, Cell.setSlot, Array.getElem?_setIfInBounds, u']
    exact H i hi
theorem own_newP (X : Stand p l e R s m args below meth c T locs cells slots) (hx : p.tables.exec = Jvm.exec) (hZ : Z.Warmed39 s.vm) {aty : ArrayType} (w : (Cond.arrayClass (newarray.typeOf aty)).before a0 Z = true) (eT : T.heap = h) {g : JFrame} (hg : g.method = m) (hd : decode c.code g.pc = .ok (.newarray aty, 2)) {z : Int32} {rest : List Value} (hs : g.stack = .int z :: rest)
    {n cap : Nat} (hz : z = Int32.ofNat n) (hn : n ≤ cap) (hb : cap * 8 ≤ 536870912) (hc : cells + 1 ≤ R.cells) (hl : slots + cap ≤ R.slots) :
    ∃ T' h', Stand p l e R s m args below meth c T' locs (cells + 1) (slots + cap) ∧ T'.heap = h' ∧ Ext h h' ∧ own_Ar Z h' h.size (newarray.typeOf aty) n (fun _ => defaultValue (newarray.typeOf aty)) ∧
      ∀ target, Steps p.tables e below (T'.setTop { g with pc := g.pc + 2, stack := .ref h.size :: rest }) target → Steps p.tables e below (T.setTop g) target := by
  obtain ⟨e1, e2⟩ := own_clamp (k := n) (by omega)
  subst hz
  obtain ⟨T', h', cA, X', e', E, A, st⟩ := newP X hx hZ w eT hg hd hs e2 (cap := cap) (by rw [e1]; exact hn) hb hc hl
  refine ⟨T', h', X', e', E, ⟨by omega, _, A, by rw [sz_new, e1], fun i hi => ⟨?_, by cases aty <;> rfl⟩⟩, st⟩
  simp [newA, e1, hi]
end Arrays
theorem own_st1 {l : Array Slot} {i : Nat} {v : Value} {o : Slot} (hold : l[i]? = some o) (ho : o = .unset ∨ ∃ w, o = .val w ∧ w.category = 1) (hv : v.category = 1) : storeLocals l i v = some (l.setIfInBounds i (.val v)) := XS.store1 hold ho hv
/-- the cell at x stands as it stood -/
def own_Kx (h h' : Heap) (x : Addr) : Prop := h.size ≤ h'.size ∧ ∀ c : Cell, h[x]? = some c → h'[x]? = some c
section Kx
variable {x a : Addr} {h2 : Heap} {sl : Nat} {v : Value} {ws : List Addr}
theorem own_Kx.refl : own_Kx h h x := ⟨Nat.le_refl _, fun _ q => q⟩
theorem own_Kx.ext (K : own_Kx h h' x) (E : Ext h' h2) : own_Kx h h2 x := ⟨Nat.le_trans K.1 E.1, fun c q => E.2 _ _ (K.2 c q)⟩
theorem own_Kx.keep (K : own_Kx h h' x) (K' : Keep h' h2 ws) (q : x ∉ ws) : own_Kx h h2 x := ⟨Nat.le_trans K.1 K'.1, fun c r => K'.2.1 _ _ (K.2 c r) q⟩
theorem own_Kx.wr (K : own_Kx h h' x) (W : Wr h' h2 a sl v) (q : x ≠ a) : own_Kx h h2 x := K.keep (Keep.of_wr W) (ninS q nin0)
theorem own_Kx.trans (K : own_Kx h h' x) (K' : own_Kx h' h2 x) : own_Kx h h2 x := ⟨Nat.le_trans K.1 K'.1, fun c r => K'.2 _ (K.2 c r)⟩
theorem own_Ar.kx {ty : FieldType} {n : Nat} {f : Nat → Value} (F : own_Ar Z h x ty n f) (K : own_Kx h h' x) : own_Ar Z h' x ty n f := by obtain ⟨q0, c, A, r⟩ := F; exact ⟨q0, c, ⟨K.2 c A.1, A.2⟩, r⟩
theorem own_Ek {C : String} (F : Exa Z h x C) (K : own_Kx h h' x) : Exa Z h' x C := by obtain ⟨cell, k, h1, r⟩ := F; exact ⟨cell, k, K.2 _ h1, r⟩
def own_Lt (h : Heap) (x : Addr) : Prop := x < h.size
theorem own_Lt.lt (q : own_Lt h x) : x < h.size := q
theorem own_Lt.ext (q : own_Lt h x) (E : Ext h h') : own_Lt h' x := Nat.lt_of_lt_of_le q E.1
theorem own_Lt.keep (q : own_Lt h x) (K : Keep h h' ws) : own_Lt h' x := Nat.lt_of_lt_of_le q K.1
theorem own_Lt.wr (q : own_Lt h x) (W : Wr h h' a sl v) : own_Lt h' x := q.keep (Keep.of_wr W)
theorem own_Lt.le (q : own_Lt h x) (K : h.size ≤ h'.size) : own_Lt h' x := Nat.lt_of_lt_of_le q K
theorem own_Lt.kx {y : Addr} (q : own_Lt h x) (K : own_Kx h h' y) : own_Lt h' x := Nat.lt_of_lt_of_le q K.1
end Kx
/-! numbers: small naturals as ints -/
theorem own_toInt {a : Nat} (ha : a < 2 ^ 31) : (Int32.ofNat a).toInt = (a : Int) := Int32.toInt_ofNat_of_lt ha
theorem own_mask (x : Int32) (m : Nat) : ∃ k : Nat, k ≤ m ∧ (x &&& Int32.ofNat m) = Int32.ofNat k := by
  refine ⟨(x.toBitVec.toNat &&& (m % 2 ^ 32)), Nat.le_trans Nat.and_le_right (Nat.mod_le _ _), ?_⟩
  apply Int32.toBitVec_inj.mp
  apply BitVec.eq_of_toNat_eq
  rw [Int32.toBitVec_and, BitVec.toNat_and]
  show _ &&& (BitVec.ofNat 32 m).toNat = (BitVec.ofNat 32 _).toNat
  rw [BitVec.toNat_ofNat, BitVec.toNat_ofNat]
  rw [Nat.mod_eq_of_lt (a := _ &&& _)]
  exact Nat.lt_of_le_of_lt Nat.and_le_right (Nat.mod_lt _ (by decide))
theorem own_ltN {a b : Nat} (ha : a < 2 ^ 31) (hb : b < 2 ^ 31) : Int32.ofNat a < Int32.ofNat b ↔ a < b := by
  rw [Int32.lt_iff_toInt_lt, own_toInt ha, own_toInt hb]; omega
theorem own_eqN' {a b : Nat} (h : a = b) : Int32.ofNat a = Int32.ofNat b := by rw [h]
theorem own_eqN {a b : Nat} (ha : a < 2 ^ 31) (hb : b < 2 ^ 31) : Int32.ofNat a = Int32.ofNat b ↔ a = b := by
  constructor
  · intro h
    have h2 := congrArg Int32.toInt h
    rw [own_toInt ha, own_toInt hb] at h2; omega
  · exact own_eqN'
theorem own_addN (a b : Nat) : Int32.ofNat a + Int32.ofNat b = Int32.ofNat (a + b) := (Int32.ofNat_add a b).symm
theorem own_subN {a b : Nat} (h : b ≤ a) : Int32.ofNat a - Int32.ofNat b = Int32.ofNat (a - b) := by
  have h2 : Int32.ofNat a = Int32.ofNat (a - b) + Int32.ofNat b := by rw [own_addN]; congr 1; omega
  rw [h2, Int32.add_sub_cancel]
theorem own_nzN {a : Nat} (h0 : 0 < a) (ha : a < 2 ^ 31) : Int32.ofNat a ≠ (0 : Int32) := by
  intro h
  have h2 : Int32.ofNat a = Int32.ofNat 0 := h
  rw [own_eqN ha (by decide)] at h2; omega
theorem own_remN {a b : Nat} (ha : a < 2 ^ 31) (hb : b < 2 ^ 31) : (Int32.ofNat a - (Int32.ofNat a / Int32.ofNat b) * Int32.ofNat b) = Int32.ofNat (a % b) := by
  apply Int32.toInt_inj.mp
  have hm : a % b < 2 ^ 31 := Nat.lt_of_le_of_lt (Nat.mod_le _ _) ha
  rw [rem_toInt, own_toInt ha, own_toInt hb, own_toInt hm]
  exact (Int.ofNat_tmod a b).symm
theorem own_bm (x : Int) (h1 : -2147483648 ≤ x) (h2 : x < 2147483648) : x.bmod (2 ^ 32) = x := Int.bmod_eq_of_le (by omega) (by omega)
theorem own_bm64 (x : Int) (h1 : -9223372036854775808 ≤ x) (h2 : x < 9223372036854775808) : x.bmod (2 ^ 64) = x := Int.bmod_eq_of_le (by omega) (by omega)
theorem own_dup2 {tb : Tables} [Ours tb] {e : Env} {below : List Frame} {T target : State} {m : MethodId} {c : Code} {g : JFrame} (h : At T m c below) (hx : tb.exec = Jvm.exec) (hg : g.method = m) {v1 v2 : Value} {rest : List Value} (hd : decode c.code g.pc = .ok (.dup2, 1)) (hs : g.stack = v1 :: v2 :: rest) (hc : v1.category = 1) (hc2 : v2.category = 1)
    (hr : Steps tb e below (T.setTop { g with pc := g.pc + 1, stack := v1 :: v2 :: v1 :: v2 :: rest }) target) : Steps tb e below (T.setTop g) target := by
  subst hg
  jvm_step h [h.top, hx, hd, hs, hc, hc2]
  exact hr
end Own
section OwnW
variable {p : Program} {l : Launch} {e : Env} {R : Room} {s : State} {vm0 : Vm} {k0 : Nat} {m : MethodId} {args : Array Value} {below : List Frame} {meth : Method} {c : Code} {T : State} {locs : List Loc} {cells slots : Nat} {Z : State} {a0 : Array Value} {h h' : Heap}
/-- the same where a String constant may have been linked meanwhile -/
def own_EndW (s : State) (Q : Option Value → Heap → List Loc → Prop) (C K : Nat) : Outcome → State → Prop :=
  fun o U' => ∃ v L, o = .returned v ∧ Q v U'.heap L ∧ ReturnedEndW s o U' L C K
abbrev own_MetW (l : Launch) (Z : State) (h0 : Heap) (y : MethodName) (bytes : ByteArray) (maxL : Nat) (ret : Option FieldType) (ws : List Jvm.Cond) (rm : Room) (as' : Array Value) (Q : Option Value → Heap → List Loc → Prop) : Prop :=
  MetFree l y (head1 (Jvm.Cond.code y bytes maxL ret :: ws) rm) (fun a U => a = as' ∧ Z.Warmed39 U.vm ∧ U.heap = h0) (fun _ _ _ _ _ => True) (fun _ U o U' => ∃ v L, o = .returned v ∧ Q v U'.heap L ∧ ReturnedEndW U o U' L rm.cells rm.slots)
theorem own_enterW {h0 : Heap} {y : MethodName} {bytes : ByteArray} {maxL : Nat} {ret : Option FieldType} {ws : List Jvm.Cond} {rm : Room} {as' : Array Value} {Q : Option Value → Heap → List Loc → Prop} (hpl : plainFor y = true)
    (body : ∀ (p : Program) (e : Env) (s : State) (m : MethodId) (below : List Frame) (meth : Method) (c : Code) (T0 : State), Stand p l e rm (s.setVm s.vm) m as' below meth c T0 [] 0 0 → p.tables.exec = Jvm.exec → c.code = bytes → c.maxLocals = maxL → meth.sig.returnType = ret → meth.locks = false → (s.setVm s.vm).vm.findClass y.cls = some m.cls → meth.name = y.name → Z.Warmed39 (s.setVm s.vm).vm → T0.heap = h0 →
      own_Go p e below (T0.setTop (entryFrame m as' maxL)) (own_EndW s Q rm.cells rm.slots)) : own_MetW l Z h0 y bytes maxL ret ws rm as' Q := by
  refine MetFree.of_bodySF hpl hisR ?_
  intro p e s m args below meth c s₁ Bd hml0 hP hK
  obtain ⟨rfl, hZ, hh⟩ := hP
  exact body p e s m below meth c s₁ (Stand.of_body Bd) Bd.exec Bd.bytes hml0 Bd.returns Bd.notSynchronized (findClass_of_methodNamed Bd.named) (name_of_methodNamed Bd.named Bd.method).1 hZ (by rw [← hh, Bd.state]; rfl)
theorem own_leaveW (X : Stand p l e R (s.setVm vm0) m args below meth c T locs cells slots) (hS : s.Since vm0 k0) (hk : k0 ≤ h.size) (hlk : meth.locks = false) {v : Option Value} {Q : Option Value → Heap → List Loc → Prop} {C K : Nat} {g : JFrame} (hv : meth.sig.returnType = none → v = none)
    (st : ∀ fs, (∀ (f : JFrame) (acts : List Action), f.method = m → f.locked = none → f.entered = [] → (doReturn e (T.setTop f) acts v).1 = T.setFrames fs) → Steps p.tables e below (T.setTop g) (T.setFrames fs))
    (eT : T.heap = h) (hQ : Q v h locs) (hc : cells ≤ C) (hkk : slots ≤ K) : own_Go p e below (T.setTop g) (own_EndW s Q C K) := by
  obtain ⟨fs, hr, hrun, hended, hW, hsame⟩ := X.leave (v := v) hv hlk
  subst eT
  have h2 : s.Since (T.setFrames fs).vm T.heap.size := hS.trans (hW.since T.heap.size) hk
  have h3 : s.sameButNew ({ T.setFrames fs with vm := s.vm } : State) locs cells slots := hsame.setVm s.vm
  exact ⟨_, _, st fs hr, hrun, hended, v, locs, rfl, hQ, ⟨_, rfl⟩, h2.1, h2.2, h3.mono hc hkk⟩
theorem own_retVW (X : Stand p l e R (s.setVm vm0) m args below meth c T locs cells slots) (hS : s.Since vm0 k0) (hkh : k0 ≤ h.size) (hx : p.tables.exec = Jvm.exec) (hlk : meth.locks = false) {pc : Nat} {Ls : Array Slot} {Q : Option Value → Heap → List Loc → Prop} {C K : Nat} (hret : meth.sig.returnType = none) (hd : decode c.code pc = .ok (.return_, 1))
    (eT : T.heap = h) (hQ : Q none h locs) (hc : cells ≤ C) (hk : slots ≤ K) : own_Go p e below (T.setTop (mkF m pc Ls [])) (own_EndW s Q C K) :=
  own_leaveW X hS hkh hlk (fun _ => rfl) (fun fs hl => X.returnOut hx hret hd hl) eT hQ hc hk
theorem own_retNW (X : Stand p l e R (s.setVm vm0) m args below meth c T locs cells slots) (hS : s.Since vm0 k0) (hkh : k0 ≤ h.size) (hx : p.tables.exec = Jvm.exec) (hlk : meth.locks = false) {pc : Nat} {Ls : Array Slot} {z : Int32} {t : FieldType} {rest : List Value} {Q : Option Value → Heap → List Loc → Prop} {C K : Nat} (hret : meth.sig.returnType = some t) (ht : t = .boolean ∨ t = .byte ∨ t = .char ∨ t = .short) (hd : decode c.code pc = .ok (.ireturn, 1))
    (eT : T.heap = h) (hQ : Q (some (.int (nar t z))) h locs) (hc : cells ≤ C) (hk : slots ≤ K) : own_Go p e below (T.setTop (mkF m pc Ls (.int z :: rest))) (own_EndW s Q C K) :=
  own_leaveW X hS hkh hlk (fun q => by rw [hret] at q; cases q) (fun fs hl => retN X hx hret ht hd hl) eT hQ hc hk
theorem own_newPx (X : Stand p l e R s m args below meth c T locs cells slots) (hx : p.tables.exec = Jvm.exec) (hZ : Z.Warmed39 s.vm) {aty : ArrayType} (w : (Cond.arrayClass (newarray.typeOf aty)).before a0 Z = true) (eT : T.heap = h) {g : JFrame} (hg : g.method = m) (hd : decode c.code g.pc = .ok (.newarray aty, 2)) {z : Int32} {rest : List Value} (hs : g.stack = .int z :: rest)
    {n cap : Nat} (hz : z = Int32.ofNat n) (hn : n ≤ cap) (hb : cap * 8 ≤ 536870912) (hc : cells + 1 ≤ R.cells) (hl : slots + cap ≤ R.slots) :
    ∃ T' h', Stand p l e R s m args below meth c T' locs (cells + 1) (slots + cap) ∧ T'.heap = h' ∧ Ext h h' ∧ own_Ar Z h' h.size (newarray.typeOf aty) n (fun _ => defaultValue (newarray.typeOf aty)) ∧ Exa Z h' h.size ("[" ++ (newarray.typeOf aty).toString) ∧
      ∀ target, Steps p.tables e below (T'.setTop { g with pc := g.pc + 2, stack := .ref h.size :: rest }) target → Steps p.tables e below (T.setTop g) target := by
  obtain ⟨c1, c2⟩ := own_clamp (k := n) (by omega)
  subst hz
  have hcb : componentBytes (newarray.typeOf aty) ≤ 8 := by cases aty <;> decide
  obtain ⟨cA, kA, comp, h1, h2, h3, X', st⟩ := X.newarrayPrim hx (mvA hZ w) hg hd hs c2 (by rw [c1]; exact Nat.le_trans (Nat.mul_le_mul hn hcb) hb) hc (by rw [c1]; omega)
  subst eT
  rw [hZ.alike.findClass] at h1
  obtain ⟨kZ, z1, -⟩ := Vm.findClass_spec h1
  obtain ⟨k', z2, z3⟩ := hZ.alike.2.2 _ _ z1
  cases h2.symm.trans z2
  have A : Arr Z (T.pushCell { cls := cA, slots := Array.replicate (Int32.ofNat n).toNatClampNeg (defaultValue (newarray.typeOf aty)), vm := .none }).heap T.heap.size { cls := cA, slots := Array.replicate (Int32.ofNat n).toNatClampNeg (defaultValue (newarray.typeOf aty)), vm := .none } (newarray.typeOf aty) :=
    ⟨by show (T.heap.push _)[T.heap.size]? = _; simp, ⟨by simp, kZ, z1, comp, by rw [← h3, z3]⟩, by simp⟩
  refine ⟨_, _, own_mono X' (Nat.le_refl _) (by rw [c1]; omega), rfl, ⟨by show T.heap.size ≤ (T.heap.push _).size; simp, fun a c h => ?_⟩, ⟨by omega, _, A, by simp [c1], fun i hi => ⟨by simp [c1, hi], by cases aty <;> rfl⟩⟩, exa_arr A h1 rfl, st⟩
  show (T.heap.push _)[a]? = _
  rw [Array.getElem?_push_lt (Array.getElem?_eq_some_iff.mp h).1]; exact (Array.getElem?_eq_getElem _).symm.trans h
end OwnW

/-! steps over doubles -/
section OwnD
variable {tb : Tables} [Ours tb] {e : Env} {below : List Frame} {T target : State} {m : MethodId} {c : Code} {g : JFrame}
theorem own_dloadN (h : At T m c below) (hx : tb.exec = Jvm.exec) (hg : g.method = m) {k : Fin 4} {v : UInt64} (hd : decode c.code g.pc = .ok (.dload_n k, 1)) (hl : g.locals[k.val]? = some (.val (.double v)))
    (hr : Steps tb e below (T.setTop { g with pc := g.pc + 1, stack := .double v :: g.stack }) target) : Steps tb e below (T.setTop g) target := by
  subst hg
  jvm_step h [h.top, hx, hd, hl]
  exact hr
theorem own_dload (h : At T m c below) (hx : tb.exec = Jvm.exec) (hg : g.method = m) {k : Nat} {v : UInt64} (hd : decode c.code g.pc = .ok (.dload k, 2)) (hl : g.locals[k]? = some (.val (.double v)))
    (hr : Steps tb e below (T.setTop { g with pc := g.pc + 2, stack := .double v :: g.stack }) target) : Steps tb e below (T.setTop g) target := by
  subst hg
  jvm_step h [h.top, hx, hd, hl]
  exact hr
theorem own_i2d (h : At T m c below) (hx : tb.exec = Jvm.exec) (hg : g.method = m) {z : Int32} {rest : List Value} (hd : decode c.code g.pc = .ok (.i2d, 1)) (hs : g.stack = .int z :: rest)
    (hr : Steps tb e below (T.setTop { g with pc := g.pc + 1, stack := .double (FP.i2d z) :: rest }) target) : Steps tb e below (T.setTop g) target := by
  subst hg
  jvm_step h [h.top, hx, hd, hs]
  exact hr
theorem own_dcmp (h : At T m c below) (hx : tb.exec = Jvm.exec) (hg : g.method = m) {op : CmpOp} {a b : UInt64} {rest : List Value} (hd : decode c.code g.pc = .ok (.dcmp op, 1)) (hs : g.stack = .double b :: .double a :: rest)
    (hr : Steps tb e below (T.setTop { g with pc := g.pc + 1, stack := .int (cmpValue (FP.dcmp a b) op) :: rest }) target) : Steps tb e below (T.setTop g) target := by
  subst hg
  jvm_step h [h.top, hx, hd, hs]
  exact hr
end OwnD
section OwnD2
variable {p : Program} {l : Launch} {e : Env} {R : Room} {s : State} {m : MethodId} {args : Array Value} {below : List Frame} {meth : Method} {c : Code} {T : State} {locs : List Loc} {cells slots : Nat} {h : Heap}
theorem own_retD (X : Stand p l e R s m args below meth c T locs cells slots) (hx : p.tables.exec = Jvm.exec) (hlk : meth.locks = false) {pc : Nat} {Ls : Array Slot} {z : UInt64} {Q : Option Value → Heap → List Loc → Prop} {C K : Nat} (hret : meth.sig.returnType = some .double) (hd : decode c.code pc = .ok (.dreturn, 1))
    (eT : T.heap = h) (hQ : Q (some (.double z)) h locs) (hc : cells ≤ C) (hk : slots ≤ K) : own_Go p e below (T.setTop (mkF m pc Ls [.double z])) (own_End s Q C K) := by
  refine own_leave X hlk (fun q => by rw [hret] at q; cases q) (fun fs hl => ?_) eT hQ hc hk
  have hm' : T.vm.method? m = some meth := X.method'
  show Steps p.tables e below (T.setTop { method := m, pc := pc, locals := Ls, stack := [_], locked := none }) _
  jvm_step X.here [X.here.top, hx, hd, hm', hret]
  first | (intro acts; rw [hl _ acts rfl rfl rfl]) | rw [hl _ _ rfl rfl rfl]
  exact Steps.refl _
theorem own_nn (a : Int32) : Jvm.Free.Fl.NoNaN64 (FP.i2d a) := UInt64.le_of_lt (Jvm.Free.Fl.i2d_fin a)
theorem own_cmp (i j : Int) : compare i j = (if i < j then .lt else if i = j then .eq else .gt) := rfl
theorem own_dc (a b : Int32) : FP.dcmp (FP.i2d a) (FP.i2d b) = some (compare a.toInt b.toInt) := FP.Core.dcmp_int (FP.Core.i2d_int a) (FP.Core.i2d_int b)
theorem own_dlt (a b : Int32) (op : CmpOp) : cmpValue (FP.dcmp (FP.i2d a) (FP.i2d b)) op < 0 ↔ a < b := by
  rw [own_dc, Int32.lt_iff_toInt_lt (x := a)]
  generalize a.toInt = i
  generalize b.toInt = j
  rcases Int.lt_trichotomy i j with q | q | q
  · rw [show compare i j = .lt from by rw [own_cmp, if_pos q]]
    exact ⟨fun _ => q, fun _ => (by decide : (-1 : Int32) < 0)⟩
  · rw [show compare i j = .eq from by rw [own_cmp, if_neg (by omega), if_pos q]]
    exact ⟨fun z => absurd z (by decide : ¬ (0 : Int32) < 0), fun z => by omega⟩
  · rw [show compare i j = .gt from by rw [own_cmp, if_neg (by omega), if_neg (by omega)]]
    exact ⟨fun z => absurd z (by decide : ¬ (1 : Int32) < 0), fun z => by omega⟩
theorem own_dgt (a b : Int32) (op : CmpOp) : 0 < cmpValue (FP.dcmp (FP.i2d a) (FP.i2d b)) op ↔ b < a := by
  rw [own_dc, Int32.lt_iff_toInt_lt (x := b)]
  generalize a.toInt = i
  generalize b.toInt = j
  rcases Int.lt_trichotomy i j with q | q | q
  · rw [show compare i j = .lt from by rw [own_cmp, if_pos q]]
    exact ⟨fun z => absurd z (by decide : ¬ (0 : Int32) < -1), fun z => by omega⟩
  · rw [show compare i j = .eq from by rw [own_cmp, if_neg (by omega), if_pos q]]
    exact ⟨fun z => absurd z (by decide : ¬ (0 : Int32) < 0), fun z => by omega⟩
  · rw [show compare i j = .gt from by rw [own_cmp, if_neg (by omega), if_neg (by omega)]]
    exact ⟨fun _ => q, fun _ => (by decide : (0 : Int32) < 1)⟩
theorem own_dnew (a b : Int32) (op : CmpOp) : ∃ z : Int32, z = cmpValue (FP.dcmp (FP.i2d a) (FP.i2d b)) op ∧ (z < 0 ↔ a < b) ∧ (0 < z ↔ b < a) := ⟨_, rfl, own_dlt a b op, own_dgt a b op⟩
theorem own_dcmpZ {tb : Tables} [Ours tb] {target : State} {g : JFrame} (h : At T m c below) (hx : tb.exec = Jvm.exec) (hg : g.method = m) {op : CmpOp} {a b : UInt64} {z : Int32} {rest : List Value} (hd : decode c.code g.pc = .ok (.dcmp op, 1)) (hs : g.stack = .double b :: .double a :: rest) (hz : z = cmpValue (FP.dcmp a b) op)
    (hr : Steps tb e below (T.setTop { g with pc := g.pc + 1, stack := .int z :: rest }) target) : Steps tb e below (T.setTop g) target := by
  subst hz
  exact own_dcmp h hx hg hd hs hr
end OwnD2


def own_min (a b : Int32) : Int32 := if b < a then b else a
def own_max (a b : Int32) : Int32 := if a < b then b else a
theorem own_mm (a b : Int32) : ¬ own_max a b < own_min a b := by
  unfold own_max own_min
  rw [Int32.lt_iff_toInt_lt]
  by_cases q : a < b
  · rw [if_pos q, if_neg (by rw [Int32.lt_iff_toInt_lt] at q ⊢; omega)]
    rw [Int32.lt_iff_toInt_lt] at q; omega
  · rw [if_neg q]
    by_cases q2 : b < a
    · rw [if_pos q2]; rw [Int32.lt_iff_toInt_lt] at q2; omega
    · rw [if_neg q2]; omega
def own_in (a b c d u v : Int32) : Int32 := if u < a then 0 else if c < u then 0 else if v < b then 0 else if d < v then 0 else 1
def own_cl (v lo hi : Int32) : Int32 := if own_max lo (own_min v hi) = v then 1 else 0
theorem own_cl_in (v lo hi : Int32) (h : ¬ hi < lo) : own_cl v lo hi = if v < lo then 0 else if hi < v then 0 else 1 := by
  unfold own_cl own_max own_min
  rw [Int32.lt_iff_toInt_lt] at h
  by_cases q : hi < v
  · rw [if_pos q, if_pos q]
    have q' := Int32.lt_iff_toInt_lt.mp q
    by_cases q2 : lo < hi
    · rw [if_pos q2, if_neg (fun z => by rw [z] at q'; omega)]
      by_cases q3 : v < lo
      · rw [if_pos q3]
      · rw [if_neg q3]
    · rw [if_neg q2]
      have q2' : ¬ lo.toInt < hi.toInt := fun z => q2 (Int32.lt_iff_toInt_lt.mpr z)
      rw [if_neg (fun z => by rw [← z] at q'; omega)]
      by_cases q3 : v < lo
      · rw [if_pos q3]
      · rw [if_neg q3]
  · rw [if_neg q, if_neg q]
    by_cases q3 : v < lo
    · have q3' := Int32.lt_iff_toInt_lt.mp q3
      have e1 : ¬ lo < v := fun z => by have := Int32.lt_iff_toInt_lt.mp z; omega
      have e2 : ¬ lo = v := fun z => by rw [z] at q3'; omega
      rw [if_pos q3, if_neg e1, if_neg e2]
    · have q3' : ¬ v.toInt < lo.toInt := fun z => q3 (Int32.lt_iff_toInt_lt.mpr z)
      rw [if_neg q3]
      by_cases q4 : lo < v
      · rw [if_pos q4, if_pos rfl]
      · have q4' : ¬ lo.toInt < v.toInt := fun z => q4 (Int32.lt_iff_toInt_lt.mpr z)
        rw [if_neg q4, if_pos (Int32.toInt_inj.mp (by omega))]
theorem own_in_self (a b c d u v : Int32) (h1 : ¬ u < a) (h2 : ¬ c < u) (h3 : ¬ v < b) (h4 : ¬ d < v) : own_in a b c d u v = 1 := by
  unfold own_in
  rw [if_neg h1, if_neg h2, if_neg h3, if_neg h4]
theorem own_irr (a : Int32) : ¬ a < a := fun q => by have := Int32.lt_iff_toInt_lt.mp q; omega
theorem d1_0 : decode jdk_29_method_69_code 0 = .ok (.iload_n 0, 1) := by decide +kernel
theorem d1_1 : decode jdk_29_method_69_code 1 = .ok (.iload_n 1, 1) := by decide +kernel
theorem d1_2 : decode jdk_29_method_69_code 2 = .ok (.if_icmp .gt 7, 3) := by decide +kernel
theorem d1_5 : decode jdk_29_method_69_code 5 = .ok (.iload_n 0, 1) := by decide +kernel
theorem d1_6 : decode jdk_29_method_69_code 6 = .ok (.goto 4, 3) := by decide +kernel
theorem d1_9 : decode jdk_29_method_69_code 9 = .ok (.iload_n 1, 1) := by decide +kernel
theorem d1_10 : decode jdk_29_method_69_code 10 = .ok (.ireturn, 1) := by decide +kernel
def Q_rm1 (Z : State) (a : Int32) (b : Int32) (h0 : Heap) (n0 : Nat) (v : Option Value) (h : Heap) (L : List Loc) : Prop := v = some (.int (own_min a b)) ∧ Fr n0 L ∧ h = h0
set_option maxRecDepth 65536 in
set_option maxHeartbeats 40000000 in
theorem rm1 (l : Launch) (Z : State) (a0 : Array Value) (hw : ∀ d ∈ tables_1, d.before a0 Z = true) (ws : List Jvm.Cond) (a : Int32) (b : Int32) (h0 : Heap) (n0 : Nat) (Z0 : n0 ≤ h0.size)  :
    own_Met l Z h0 (⟨"java/lang/Math", "min", "(II)I"⟩ : MethodName) jdk_29_method_69_code 2 (some .int) ws ({ frames := 0, cells := 0, slots := 0, locals := 0 } : Room) #[(.int a), (.int b)] (Q_rm1 Z a b h0 n0) := by
  refine own_enter (Jvm.Free.JP.mathPlain rfl (by decide +kernel)) ?_
  intro p e s m below meth c T0 X0 hx hby hml hret hlk hown hnm hZ e0
  have N0 := Fr.nil n0
  rw [show entryFrame m #[(.int a), (.int b)] 2 = (mkF m 0 #[.val (.int a), .val (.int b)] []) from by first | (simp [entryFrame, mkF, argsToLocals, Value.category]; done) | rfl]
  refine own_Go.of (S' := (T0.setTop (mkF m 2 #[.val (.int a), .val (.int b)] [(.int b), (.int a)]))) (fun t kt => ?_) ?_
  · show Steps p.tables e below (T0.setTop (mkF m 0 #[.val (.int a), .val (.int b)] [])) _
    refine XS.iloadN X0.here hx rfl (own_hb hby d1_0) rfl ?_
    show Steps p.tables e below (T0.setTop (mkF m 1 #[.val (.int a), .val (.int b)] [(.int a)])) _
    refine XS.iloadN X0.here hx rfl (own_hb hby d1_1) rfl ?_
    exact kt
  by_cases hc2_1 : b < a
  · skip
    refine own_Go.of (S' := (T0.setTop (mkF m 10 #[.val (.int a), .val (.int b)] [(.int b)]))) (fun t kt => ?_) ?_
    · show Steps p.tables e below (T0.setTop (mkF m 2 #[.val (.int a), .val (.int b)] [(.int b), (.int a)])) _
      refine XS.icmpYes X0.here hx rfl (pc0 := 2) (pc' := 9) rfl (own_hb hby d1_2) rfl (tlt hc2_1).2.2.1 (by decide) (by decide) ?_
      show Steps p.tables e below (T0.setTop (mkF m 9 #[.val (.int a), .val (.int b)] [])) _
      refine XS.iloadN X0.here hx rfl (own_hb hby d1_9) rfl ?_
      exact kt
    exact own_retI X0 hx hlk hret (own_hb hby d1_10) e0 ⟨by unfold own_min; rw [if_pos hc2_1], N0, rfl⟩ (by decide) (by decide)
  · skip
    refine own_Go.of (S' := (T0.setTop (mkF m 10 #[.val (.int a), .val (.int b)] [(.int a)]))) (fun t kt => ?_) ?_
    · show Steps p.tables e below (T0.setTop (mkF m 2 #[.val (.int a), .val (.int b)] [(.int b), (.int a)])) _
      refine XS.icmpNo X0.here hx rfl (own_hb hby d1_2) rfl (flt hc2_1).2.2.1 ?_
      show Steps p.tables e below (T0.setTop (mkF m 5 #[.val (.int a), .val (.int b)] [])) _
      refine XS.iloadN X0.here hx rfl (own_hb hby d1_5) rfl ?_
      show Steps p.tables e below (T0.setTop (mkF m 6 #[.val (.int a), .val (.int b)] [(.int a)])) _
      refine XS.goto X0.here hx rfl (pc0 := 6) (pc' := 10) rfl (own_hb hby d1_6) (by decide) (by decide) ?_
      exact kt
    exact own_retI X0 hx hlk hret (own_hb hby d1_10) e0 ⟨by unfold own_min; rw [if_neg hc2_1], N0, rfl⟩ (by decide) (by decide)
theorem d2_0 : decode jdk_29_method_65_code 0 = .ok (.iload_n 0, 1) := by decide +kernel
theorem d2_1 : decode jdk_29_method_65_code 1 = .ok (.iload_n 1, 1) := by decide +kernel
theorem d2_2 : decode jdk_29_method_65_code 2 = .ok (.if_icmp .lt 7, 3) := by decide +kernel
theorem d2_5 : decode jdk_29_method_65_code 5 = .ok (.iload_n 0, 1) := by decide +kernel
theorem d2_6 : decode jdk_29_method_65_code 6 = .ok (.goto 4, 3) := by decide +kernel
theorem d2_9 : decode jdk_29_method_65_code 9 = .ok (.iload_n 1, 1) := by decide +kernel
theorem d2_10 : decode jdk_29_method_65_code 10 = .ok (.ireturn, 1) := by decide +kernel
def Q_rm2 (Z : State) (a : Int32) (b : Int32) (h0 : Heap) (n0 : Nat) (v : Option Value) (h : Heap) (L : List Loc) : Prop := v = some (.int (own_max a b)) ∧ Fr n0 L ∧ h = h0
set_option maxRecDepth 65536 in
set_option maxHeartbeats 40000000 in
theorem rm2 (l : Launch) (Z : State) (a0 : Array Value) (hw : ∀ d ∈ tables_1, d.before a0 Z = true) (ws : List Jvm.Cond) (a : Int32) (b : Int32) (h0 : Heap) (n0 : Nat) (Z0 : n0 ≤ h0.size)  :
    own_Met l Z h0 (⟨"java/lang/Math", "max", "(II)I"⟩ : MethodName) jdk_29_method_65_code 2 (some .int) ws ({ frames := 0, cells := 0, slots := 0, locals := 0 } : Room) #[(.int a), (.int b)] (Q_rm2 Z a b h0 n0) := by
  refine own_enter (Jvm.Free.JP.mathPlain rfl (by decide +kernel)) ?_
  intro p e s m below meth c T0 X0 hx hby hml hret hlk hown hnm hZ e0
  have N0 := Fr.nil n0
  rw [show entryFrame m #[(.int a), (.int b)] 2 = (mkF m 0 #[.val (.int a), .val (.int b)] []) from by first | (simp [entryFrame, mkF, argsToLocals, Value.category]; done) | rfl]
  refine own_Go.of (S' := (T0.setTop (mkF m 2 #[.val (.int a), .val (.int b)] [(.int b), (.int a)]))) (fun t kt => ?_) ?_
  · show Steps p.tables e below (T0.setTop (mkF m 0 #[.val (.int a), .val (.int b)] [])) _
    refine XS.iloadN X0.here hx rfl (own_hb hby d2_0) rfl ?_
    show Steps p.tables e below (T0.setTop (mkF m 1 #[.val (.int a), .val (.int b)] [(.int a)])) _
    refine XS.iloadN X0.here hx rfl (own_hb hby d2_1) rfl ?_
    exact kt
  by_cases hc2_2 : a < b
  · skip
    refine own_Go.of (S' := (T0.setTop (mkF m 10 #[.val (.int a), .val (.int b)] [(.int b)]))) (fun t kt => ?_) ?_
    · show Steps p.tables e below (T0.setTop (mkF m 2 #[.val (.int a), .val (.int b)] [(.int b), (.int a)])) _
      refine XS.icmpYes X0.here hx rfl (pc0 := 2) (pc' := 9) rfl (own_hb hby d2_2) rfl (tlt hc2_2).1 (by decide) (by decide) ?_
      show Steps p.tables e below (T0.setTop (mkF m 9 #[.val (.int a), .val (.int b)] [])) _
      refine XS.iloadN X0.here hx rfl (own_hb hby d2_9) rfl ?_
      exact kt
    exact own_retI X0 hx hlk hret (own_hb hby d2_10) e0 ⟨by unfold own_max; rw [if_pos hc2_2], N0, rfl⟩ (by decide) (by decide)
  · skip
    refine own_Go.of (S' := (T0.setTop (mkF m 10 #[.val (.int a), .val (.int b)] [(.int a)]))) (fun t kt => ?_) ?_
    · show Steps p.tables e below (T0.setTop (mkF m 2 #[.val (.int a), .val (.int b)] [(.int b), (.int a)])) _
      refine XS.icmpNo X0.here hx rfl (own_hb hby d2_2) rfl (flt hc2_2).1 ?_
      show Steps p.tables e below (T0.setTop (mkF m 5 #[.val (.int a), .val (.int b)] [])) _
      refine XS.iloadN X0.here hx rfl (own_hb hby d2_5) rfl ?_
      show Steps p.tables e below (T0.setTop (mkF m 6 #[.val (.int a), .val (.int b)] [(.int a)])) _
      refine XS.goto X0.here hx rfl (pc0 := 6) (pc' := 10) rfl (own_hb hby d2_6) (by decide) (by decide) ?_
      exact kt
    exact own_retI X0 hx hlk hret (own_hb hby d2_10) e0 ⟨by unfold own_max; rw [if_neg hc2_2], N0, rfl⟩ (by decide) (by decide)
theorem d5_0 : decode prog_8_method_6_code 0 = .ok (.dload_n 1, 1) := by decide +kernel
theorem d5_1 : decode prog_8_method_6_code 1 = .ok (.invokestatic 50, 3) := by decide +kernel
theorem d5_4 : decode prog_8_method_6_code 4 = .ok (.ifCond .ne 18, 3) := by decide +kernel
theorem d5_7 : decode prog_8_method_6_code 7 = .ok (.new 36, 3) := by decide +kernel
theorem d5_10 : decode prog_8_method_6_code 10 = .ok (.dup, 1) := by decide +kernel
theorem d5_11 : decode prog_8_method_6_code 11 = .ok (.aload_n 0, 1) := by decide +kernel
theorem d5_12 : decode prog_8_method_6_code 12 = .ok (.dload_n 1, 1) := by decide +kernel
theorem d5_18 : decode prog_8_method_6_code 18 = .ok (.invokespecial 40, 3) := by decide +kernel
theorem d5_21 : decode prog_8_method_6_code 21 = .ok (.athrow, 1) := by decide +kernel
theorem d5_22 : decode prog_8_method_6_code 22 = .ok (.dload_n 1, 1) := by decide +kernel
theorem d5_23 : decode prog_8_method_6_code 23 = .ok (.dreturn, 1) := by decide +kernel
theorem pn_5 : plainName "com/example/sagasu/sagasu/DataObject" = true := by first | (simp [plainName, overriddenIn]; done) | decide +kernel
theorem pd_0 : parseMethodDescriptor "(D)Z" = some ⟨[.double], some .boolean⟩ := by decide +kernel
def Q_rm5 (Z : State) (sa : Addr) (a : Int32) (h0 : Heap) (n0 : Nat) (v : Option Value) (h : Heap) (L : List Loc) : Prop := v = some (.double (FP.i2d a)) ∧ Fr n0 L ∧ h = h0
set_option maxRecDepth 65536 in
set_option maxHeartbeats 40000000 in
theorem rm5 (l : Launch) (Z : State) (a0 : Array Value) (hw : ∀ d ∈ tables_1, d.before a0 Z = true) (ws : List Jvm.Cond) (sa : Addr) (a : Int32) (h0 : Heap) (n0 : Nat) (Z0 : n0 ≤ h0.size)  :
    own_Met l Z h0 (⟨"com/example/sagasu/sagasu/DataObject", "checkCoordinate", "(Ljava/lang/String;D)D"⟩ : MethodName) prog_8_method_6_code 3 (some .double) ws ({ frames := 3, cells := 0, slots := 0, locals := 53 } : Room) #[(.ref sa), (.double (FP.i2d a))] (Q_rm5 Z sa a h0 n0) := by
  refine own_enter (plainFor_of_name pn_5) ?_
  intro p e s m below meth c T0 X0 hx hby hml hret hlk hown hnm hZ e0
  have N0 := Fr.nil n0
  have ef0 : ∀ y0_ : UInt64, entryFrame m #[(.ref sa), (.double y0_)] 3 = (mkF m 0 #[.val (.ref sa), .val (.double y0_), .second] []) := fun y0_ => by first | (simp [entryFrame, mkF, argsToLocals, Value.category]; done) | rfl
  rw [ef0 (FP.i2d a)]
  refine own_Go.of (S' := (T0.setTop (mkF m 1 #[.val (.ref sa), .val (.double (FP.i2d a)), .second] [(.double (FP.i2d a))]))) (fun t kt => ?_) ?_
  · show Steps p.tables e below (T0.setTop (mkF m 0 #[.val (.ref sa), .val (.double (FP.i2d a)), .second] [])) _
    refine own_dloadN X0.here hx rfl (own_hb hby d5_0) rfl ?_
    exact kt
  obtain ⟨_, _, ⟨T3, L3, k3, n3⟩, -, X3, ⟨⟨hh3, l3, y3, z3⟩, hv3⟩, st3⟩ := Jvm.LawKit.callS X0 hx (y := (⟨"java/lang/Double", "isFinite", "(D)Z"⟩ : MethodName)) hown (mvT hZ (hw _ (List.mem_of_getElem? (i := 28) rfl))) (mvT hZ (hw _ (List.mem_of_getElem? (i := 29) rfl))) (mvT hZ (hw _ (List.mem_of_getElem? (i := 30) rfl))) (mvT hZ (hw _ (List.mem_of_getElem? (i := 31) rfl))) (by decide) (Jvm.Free.Fl.IsFinite.pays (W := 0) (by decide) (by decide) (by simp only [Jvm.Free.Fl.IsFinite.tab, Cond.before_and, Bool.and_eq_true]; exact ⟨mvT hZ (hw _ (List.mem_of_getElem? (i := 31) rfl)), mvT hZ (hw _ (List.mem_of_getElem? (i := 32) rfl)), mvT hZ (hw _ (List.mem_of_getElem? (i := 33) rfl)), mvT hZ (hw _ (List.mem_of_getElem? (i := 2) rfl)), mvT hZ (hw _ (List.mem_of_getElem? (i := 34) rfl)), mvT hZ (hw _ (List.mem_of_getElem? (i := 35) rfl))⟩) (mvT hZ (hw _ (List.mem_of_getElem? (i := 30) rfl)))) (g := (mkF m 1 #[.val (.ref sa), .val (.double (FP.i2d a)), .second] [(.double (FP.i2d a))])) rfl (by rw [hml]; rfl) (argsL := [(.double (FP.i2d a))]) (rest := []) (lenOf pd_0 rfl) rfl (by show 2 * 0 + _ ≤ _; exact Nat.le_of_eq rfl) (own_hb hby d5_1) (fun _ _ => ⟨(by decide : 0 + 0 ≤ _), (by decide : 0 + 0 ≤ _), _, rfl, own_nn _⟩)
  dsimp only [Pt.U, Pt.locs, Pt.cells, Pt.slots] at X3 hh3 l3 y3 z3 st3
  subst l3 y3 z3
  have hw3 := hv3 _ ⟨rfl, own_nn _⟩
  rw [if_pos ((Jvm.Free.Fl.le_max_iff (own_nn _)).mpr (Jvm.Free.Fl.i2d_fin a))] at hw3
  subst hw3
  have eh3 : T3.heap = h0 := hh3.trans e0
  refine own_Go.of (S' := (T3.setTop (mkF m 4 #[.val (.ref sa), .val (.double (FP.i2d a)), .second] [(.int (1 : Int32))]))) (fun t kt => st3 t kt) ?_
  refine own_Go.of (S' := (T3.setTop (mkF m 23 #[.val (.ref sa), .val (.double (FP.i2d a)), .second] [(.double (FP.i2d a))]))) (fun t kt => ?_) ?_
  · show Steps p.tables e below (T3.setTop (mkF m 4 #[.val (.ref sa), .val (.double (FP.i2d a)), .second] [(.int (1 : Int32))])) _
    refine XS.ifYes X3.here hx rfl (pc0 := 4) (pc' := 22) rfl (own_hb hby d5_4) rfl ((if0 _ _).trans (feq (by decide : ¬ ((1 : Int32) = (0 : Int32)))).2) (by decide) (by decide) ?_
    show Steps p.tables e below (T3.setTop (mkF m 22 #[.val (.ref sa), .val (.double (FP.i2d a)), .second] [])) _
    refine own_dloadN X3.here hx rfl (own_hb hby d5_22) rfl ?_
    exact kt
  exact own_retD X3 hx hlk hret (own_hb hby d5_23) eh3 ⟨rfl, N0, rfl⟩ (by decide) (by decide)
theorem d3_0 : decode prog_11_method_1_code 0 = .ok (.aload_n 0, 1) := by decide +kernel
theorem d3_1 : decode prog_11_method_1_code 1 = .ok (.invokespecial 1, 3) := by decide +kernel
theorem d3_4 : decode prog_11_method_1_code 4 = .ok (.aload_n 0, 1) := by decide +kernel
theorem d3_5 : decode prog_11_method_1_code 5 = .ok (.ldc 7, 2) := by decide +kernel
theorem d3_7 : decode prog_11_method_1_code 7 = .ok (.dload_n 1, 1) := by decide +kernel
theorem d3_8 : decode prog_11_method_1_code 8 = .ok (.invokestatic 9, 3) := by decide +kernel
theorem d3_11 : decode prog_11_method_1_code 11 = .ok (.putfield 15, 3) := by decide +kernel
theorem d3_14 : decode prog_11_method_1_code 14 = .ok (.aload_n 0, 1) := by decide +kernel
theorem d3_15 : decode prog_11_method_1_code 15 = .ok (.ldc 21, 2) := by decide +kernel
theorem d3_17 : decode prog_11_method_1_code 17 = .ok (.dload_n 3, 1) := by decide +kernel
theorem d3_18 : decode prog_11_method_1_code 18 = .ok (.invokestatic 9, 3) := by decide +kernel
theorem d3_21 : decode prog_11_method_1_code 21 = .ok (.putfield 23, 3) := by decide +kernel
theorem d3_24 : decode prog_11_method_1_code 24 = .ok (.aload_n 0, 1) := by decide +kernel
theorem d3_25 : decode prog_11_method_1_code 25 = .ok (.ldc 26, 2) := by decide +kernel
theorem d3_27 : decode prog_11_method_1_code 27 = .ok (.dload 5, 2) := by decide +kernel
theorem d3_29 : decode prog_11_method_1_code 29 = .ok (.invokestatic 9, 3) := by decide +kernel
theorem d3_32 : decode prog_11_method_1_code 32 = .ok (.putfield 28, 3) := by decide +kernel
theorem d3_35 : decode prog_11_method_1_code 35 = .ok (.aload_n 0, 1) := by decide +kernel
theorem d3_36 : decode prog_11_method_1_code 36 = .ok (.ldc 31, 2) := by decide +kernel
theorem d3_38 : decode prog_11_method_1_code 38 = .ok (.dload 7, 2) := by decide +kernel
theorem d3_40 : decode prog_11_method_1_code 40 = .ok (.invokestatic 9, 3) := by decide +kernel
theorem d3_43 : decode prog_11_method_1_code 43 = .ok (.putfield 33, 3) := by decide +kernel
theorem d3_46 : decode prog_11_method_1_code 46 = .ok (.dload 5, 2) := by decide +kernel
theorem d3_48 : decode prog_11_method_1_code 48 = .ok (.dload_n 1, 1) := by decide +kernel
theorem d3_49 : decode prog_11_method_1_code 49 = .ok (.dcmp .g, 1) := by decide +kernel
theorem d3_50 : decode prog_11_method_1_code 50 = .ok (.ifCond .ge 19, 3) := by decide +kernel
theorem d3_53 : decode prog_11_method_1_code 53 = .ok (.new 36, 3) := by decide +kernel
theorem d3_56 : decode prog_11_method_1_code 56 = .ok (.dup, 1) := by decide +kernel
theorem d3_57 : decode prog_11_method_1_code 57 = .ok (.dload 5, 2) := by decide +kernel
theorem d3_59 : decode prog_11_method_1_code 59 = .ok (.dload_n 1, 1) := by decide +kernel
theorem d3_65 : decode prog_11_method_1_code 65 = .ok (.invokespecial 42, 3) := by decide +kernel
theorem d3_68 : decode prog_11_method_1_code 68 = .ok (.athrow, 1) := by decide +kernel
theorem d3_69 : decode prog_11_method_1_code 69 = .ok (.dload 7, 2) := by decide +kernel
theorem d3_71 : decode prog_11_method_1_code 71 = .ok (.dload_n 3, 1) := by decide +kernel
theorem d3_72 : decode prog_11_method_1_code 72 = .ok (.dcmp .g, 1) := by decide +kernel
theorem d3_73 : decode prog_11_method_1_code 73 = .ok (.ifCond .ge 19, 3) := by decide +kernel
theorem d3_76 : decode prog_11_method_1_code 76 = .ok (.new 36, 3) := by decide +kernel
theorem d3_79 : decode prog_11_method_1_code 79 = .ok (.dup, 1) := by decide +kernel
theorem d3_80 : decode prog_11_method_1_code 80 = .ok (.dload 7, 2) := by decide +kernel
theorem d3_82 : decode prog_11_method_1_code 82 = .ok (.dload_n 3, 1) := by decide +kernel
theorem d3_88 : decode prog_11_method_1_code 88 = .ok (.invokespecial 42, 3) := by decide +kernel
theorem d3_91 : decode prog_11_method_1_code 91 = .ok (.athrow, 1) := by decide +kernel
theorem d3_92 : decode prog_11_method_1_code 92 = .ok (.return_, 1) := by decide +kernel
theorem pn_3 : plainName "com/example/sagasu/sagasu/Extent" = true := by first | (simp [plainName, overriddenIn]; done) | decide +kernel
theorem pd_1 : parseMethodDescriptor "(Ljava/lang/String;D)D" = some ⟨[(.object "java/lang/String"), .double], some .double⟩ := by decide +kernel
def Q_rm3 (Z : State) (o : Addr) (a : Int32) (b : Int32) (d1 : Int32) (d2 : Int32) (u0 : UInt64) (u1 : UInt64) (u2 : UInt64) (u3 : UInt64) (h0 : Heap) (n0 : Nat) (v : Option Value) (h : Heap) (L : List Loc) : Prop := v = none ∧ Fr n0 L ∧ Keep h0 h [o] ∧ (Exa Z h o "com/example/sagasu/sagasu/Extent") ∧ (Fld Z h o "com/example/sagasu/sagasu/Extent" "minX" "D" (.double (FP.i2d a))) ∧ (Fld Z h o "com/example/sagasu/sagasu/Extent" "minY" "D" (.double (FP.i2d b))) ∧ (Fld Z h o "com/example/sagasu/sagasu/Extent" "maxX" "D" (.double (FP.i2d d1))) ∧ (Fld Z h o "com/example/sagasu/sagasu/Extent" "maxY" "D" (.double (FP.i2d d2)))
set_option maxRecDepth 65536 in
set_option maxHeartbeats 40000000 in
theorem rm3 (l : Launch) (Z : State) (a0 : Array Value) (hw : ∀ d ∈ tables_1, d.before a0 Z = true) (ws : List Jvm.Cond) (o : Addr) (a : Int32) (b : Int32) (d1 : Int32) (d2 : Int32) (u0 : UInt64) (u1 : UInt64) (u2 : UInt64) (u3 : UInt64) (h0 : Heap) (n0 : Nat) (Z0 : n0 ≤ h0.size) (pr0 : Exa Z h0 o "com/example/sagasu/sagasu/Extent") (pr1 : Fld Z h0 o "com/example/sagasu/sagasu/Extent" "minX" "D" (.double u0)) (pr2 : Fld Z h0 o "com/example/sagasu/sagasu/Extent" "minY" "D" (.double u1)) (pr3 : Fld Z h0 o "com/example/sagasu/sagasu/Extent" "maxX" "D" (.double u2)) (pr4 : Fld Z h0 o "com/example/sagasu/sagasu/Extent" "maxY" "D" (.double u3)) (pr5 : n0 ≤ o) (hx1 : ¬ d1 < a) (hy1 : ¬ d2 < b) :
    own_MetW l Z h0 (⟨"com/example/sagasu/sagasu/Extent", "<init>", "(DDDD)V"⟩ : MethodName) prog_11_method_1_code 9 none ws ({ frames := 4, cells := 8, slots := 160, locals := 68 } : Room) #[(.ref o), (.double (FP.i2d a)), (.double (FP.i2d b)), (.double (FP.i2d d1)), (.double (FP.i2d d2))] (Q_rm3 Z o a b d1 d2 u0 u1 u2 u3 h0 n0) := by
  refine own_enterW (plainFor_of_name pn_3) ?_
  intro p e s m below meth c T0 X0 hx hby hml hret hlk hown hnm hZ e0
  have N0 := Fr.nil n0
  have hS0 : s.Since s.vm 0 := (State.WarmedH.refl s).since 0
  have hk0 : 0 ≤ h0.size := Nat.zero_le _
  have hwS : ∀ a ∈ Bundle.stringAtoms, a.before a0 Z = true := fun d hd => hw d ((by decide +kernel : ∀ d ∈ Bundle.stringAtoms, d ∈ tables_1) d hd)
  have kp0 : Keep h0 h0 [o] := Keep.refl h0 _
  have ef0 : ∀ y0_ y1_ y2_ y3_ : UInt64, entryFrame m #[(.ref o), (.double y0_), (.double y1_), (.double y2_), (.double y3_)] 9 = (mkF m 0 #[.val (.ref o), .val (.double y0_), .second, .val (.double y1_), .second, .val (.double y2_), .second, .val (.double y3_), .second] []) := fun y0_ y1_ y2_ y3_ => by first | (simp [entryFrame, mkF, argsToLocals, Value.category]; done) | rfl
  rw [ef0 (FP.i2d a) (FP.i2d b) (FP.i2d d1) (FP.i2d d2)]
  refine own_Go.of (S' := (T0.setTop (mkF m 1 #[.val (.ref o), .val (.double (FP.i2d a)), .second, .val (.double (FP.i2d b)), .second, .val (.double (FP.i2d d1)), .second, .val (.double (FP.i2d d2)), .second] [(.ref o)]))) (fun t kt => ?_) ?_
  · show Steps p.tables e below (T0.setTop (mkF m 0 #[.val (.ref o), .val (.double (FP.i2d a)), .second, .val (.double (FP.i2d b)), .second, .val (.double (FP.i2d d1)), .second, .val (.double (FP.i2d d2)), .second] [])) _
    refine XS.aloadN X0.here hx rfl (own_hb hby d3_0) rfl rfl ?_
    exact kt
  obtain ⟨T4, X4, e4, st4⟩ := initO X0 hx hZ hown (hw _ (List.mem_of_getElem? (i := 13) rfl)) (hw _ (List.mem_of_getElem? (i := 14) rfl)) (hw _ (List.mem_of_getElem? (i := 15) rfl)) e0 (g := (mkF m 1 #[.val (.ref o), .val (.double (FP.i2d a)), .second, .val (.double (FP.i2d b)), .second, .val (.double (FP.i2d d1)), .second, .val (.double (FP.i2d d2)), .second] [(.ref o)])) rfl (by rw [hml]; rfl) rfl (own_hb hby d3_1) (by decide) (W := 0) (by show 2 * 0 + _ ≤ _; exact Nat.le_of_eq rfl) (by decide)
  refine own_Go.of (S' := (T4.setTop (mkF m 4 #[.val (.ref o), .val (.double (FP.i2d a)), .second, .val (.double (FP.i2d b)), .second, .val (.double (FP.i2d d1)), .second, .val (.double (FP.i2d d2)), .second] []))) st4 ?_
  refine own_Go.of (S' := (T4.setTop (mkF m 5 #[.val (.ref o), .val (.double (FP.i2d a)), .second, .val (.double (FP.i2d b)), .second, .val (.double (FP.i2d d1)), .second, .val (.double (FP.i2d d2)), .second] [(.ref o)]))) (fun t kt => ?_) ?_
  · show Steps p.tables e below (T4.setTop (mkF m 4 #[.val (.ref o), .val (.double (FP.i2d a)), .second, .val (.double (FP.i2d b)), .second, .val (.double (FP.i2d d1)), .second, .val (.double (FP.i2d d2)), .second] [])) _
    refine XS.aloadN X4.here hx rfl (own_hb hby d3_4) rfl rfl ?_
    exact kt
  obtain ⟨sa5, T5, h5, k5, X5, e5, E5, hS5, hk5, hZ, hown, st5⟩ := ldcS (vm0 := s.vm) X4 hx hZ hown (hw _ (List.mem_of_getElem? (i := 16) rfl)) hwS e4 hS0 hk0 (g := (mkF m 5 #[.val (.ref o), .val (.double (FP.i2d a)), .second, .val (.double (FP.i2d b)), .second, .val (.double (FP.i2d d1)), .second, .val (.double (FP.i2d d2)), .second] [(.ref o)])) rfl (own_hb hby d3_5) (n := 36) (by decide) (by decide) (by decide) (by decide)
  refine own_Go.of (S' := (T5.setTop (mkF m 7 #[.val (.ref o), .val (.double (FP.i2d a)), .second, .val (.double (FP.i2d b)), .second, .val (.double (FP.i2d d1)), .second, .val (.double (FP.i2d d2)), .second] [(.ref sa5), (.ref o)]))) st5 ?_
  have hk6 := Nat.le_trans hk0 E5.1
  have f7 := pr0.ext E5
  have f8 := pr1.ext E5
  have f9 := pr2.ext E5
  have f10 := pr3.ext E5
  have f11 := pr4.ext E5
  have z12 := Nat.le_trans Z0 E5.1
  have kp13 := kp0.ext E5
  refine own_Go.of (S' := (T5.setTop (mkF m 8 #[.val (.ref o), .val (.double (FP.i2d a)), .second, .val (.double (FP.i2d b)), .second, .val (.double (FP.i2d d1)), .second, .val (.double (FP.i2d d2)), .second] [(.double (FP.i2d a)), (.ref sa5), (.ref o)]))) (fun t kt => ?_) ?_
  · show Steps p.tables e below (T5.setTop (mkF m 7 #[.val (.ref o), .val (.double (FP.i2d a)), .second, .val (.double (FP.i2d b)), .second, .val (.double (FP.i2d d1)), .second, .val (.double (FP.i2d d2)), .second] [(.ref sa5), (.ref o)])) _
    refine own_dloadN X5.here hx rfl (own_hb hby d3_7) rfl ?_
    exact kt
  obtain ⟨_, _, ⟨T14, L14, k14, n14⟩, -, X14, ⟨Lc14, hQ14, l14, y14, z14⟩, st14⟩ := Jvm.LawKit.callS X5 hx (y := (⟨"com/example/sagasu/sagasu/DataObject", "checkCoordinate", "(Ljava/lang/String;D)D"⟩ : MethodName)) hown (mvT hZ (hw _ (List.mem_of_getElem? (i := 24) rfl))) (mvT hZ (hw _ (List.mem_of_getElem? (i := 25) rfl))) (mvT hZ (hw _ (List.mem_of_getElem? (i := 26) rfl))) (mvT hZ (hw _ (List.mem_of_getElem? (i := 27) rfl))) (by decide) (backOf (W := 1) (rm5 l Z a0 hw [] sa5 a h5 n0 z12 ) hZ (hw _ (List.mem_of_getElem? (i := 27) rfl)) (hw _ (List.mem_of_getElem? (i := 26) rfl)) (by decide) (by decide)) (g := (mkF m 8 #[.val (.ref o), .val (.double (FP.i2d a)), .second, .val (.double (FP.i2d b)), .second, .val (.double (FP.i2d d1)), .second, .val (.double (FP.i2d d2)), .second] [(.double (FP.i2d a)), (.ref sa5), (.ref o)])) rfl (by rw [hml]; rfl) (argsL := [(.ref sa5), (.double (FP.i2d a))]) (rest := [(.ref o)]) (lenOf pd_1 rfl) rfl (by show 2 * 0 + _ ≤ _; exact Nat.le_of_eq rfl) (own_hb hby d3_8) (fun _ _ => ⟨rfl, e5, (by decide : 2 + 0 ≤ _), (by decide : 40 + 0 ≤ _)⟩)
  dsimp only [Pt.U, Pt.locs, Pt.cells, Pt.slots] at X14 l14 y14 z14 st14 hQ14
  subst l14 y14 z14
  obtain ⟨rfl, N14q, hh14⟩ := hQ14
  have N14 := Fr.app N0 N14q
  refine own_Go.of (S' := (T14.setTop (mkF m 11 #[.val (.ref o), .val (.double (FP.i2d a)), .second, .val (.double (FP.i2d b)), .second, .val (.double (FP.i2d d1)), .second, .val (.double (FP.i2d d2)), .second] [(.double (FP.i2d a)), (.ref o)]))) (fun t kt => st14 t kt) ?_
  obtain ⟨T15, h15, X15, e15, W15, st15⟩ := putF X14 hx hZ hown (host := "") (Or.inl (hw _ (List.mem_of_getElem? (i := 36) rfl))) Via.refl hh14 f8 f7 (Or.inr ⟨(hw _ (List.mem_of_getElem? (i := 37) rfl)), rfl, hnm⟩) (hw _ (List.mem_of_getElem? (i := 8) rfl)) (ty := .double) (by decide) rfl rfl (g := (mkF m 11 #[.val (.ref o), .val (.double (FP.i2d a)), .second, .val (.double (FP.i2d b)), .second, .val (.double (FP.i2d d1)), .second, .val (.double (FP.i2d d2)), .second] [(.double (FP.i2d a)), (.ref o)])) rfl rfl (own_hb hby d3_11)
  refine own_Go.of (S' := (T15.setTop (mkF m 14 #[.val (.ref o), .val (.double (FP.i2d a)), .second, .val (.double (FP.i2d b)), .second, .val (.double (FP.i2d d1)), .second, .val (.double (FP.i2d d2)), .second] []))) st15 ?_
  have hk16 := Nat.le_trans hk5 (Keep.of_wr W15).1
  have f17 := f7.wr W15
  have f18 := f9.other W15 (Or.inr (slot_ne (Or.inr (hw _ (List.mem_of_getElem? (i := 40) rfl))) (Or.inr (hw _ (List.mem_of_getElem? (i := 37) rfl))) (by decide) (t := .double) (t' := .double) (by decide) (by decide)))
  have f19 := f10.other W15 (Or.inr (slot_ne (Or.inr (hw _ (List.mem_of_getElem? (i := 43) rfl))) (Or.inr (hw _ (List.mem_of_getElem? (i := 37) rfl))) (by decide) (t := .double) (t' := .double) (by decide) (by decide)))
  have f20 := f11.other W15 (Or.inr (slot_ne (Or.inr (hw _ (List.mem_of_getElem? (i := 46) rfl))) (Or.inr (hw _ (List.mem_of_getElem? (i := 37) rfl))) (by decide) (t := .double) (t' := .double) (by decide) (by decide)))
  have z21 := Nat.le_trans z12 (Keep.of_wr W15).1
  have kp22 := kp13.wr W15 (Or.inl (List.mem_of_getElem? (i := 0) rfl))
  have f23 : Fld Z h15 o "com/example/sagasu/sagasu/Extent" "minX" "D" (.double (FP.i2d a)) := f8.same W15
  have N15 := Fr.snoc X15 N14 pr5
  refine own_Go.of (S' := (T15.setTop (mkF m 15 #[.val (.ref o), .val (.double (FP.i2d a)), .second, .val (.double (FP.i2d b)), .second, .val (.double (FP.i2d d1)), .second, .val (.double (FP.i2d d2)), .second] [(.ref o)]))) (fun t kt => ?_) ?_
  · show Steps p.tables e below (T15.setTop (mkF m 14 #[.val (.ref o), .val (.double (FP.i2d a)), .second, .val (.double (FP.i2d b)), .second, .val (.double (FP.i2d d1)), .second, .val (.double (FP.i2d d2)), .second] [])) _
    refine XS.aloadN X15.here hx rfl (own_hb hby d3_14) rfl rfl ?_
    exact kt
  obtain ⟨sa24, T24, h24, k24, X24, e24, E24, hS24, hk24, hZ, hown, st24⟩ := ldcS (vm0 := T5.vm) X15 hx hZ hown (hw _ (List.mem_of_getElem? (i := 38) rfl)) hwS e15 hS5 hk16 (g := (mkF m 15 #[.val (.ref o), .val (.double (FP.i2d a)), .second, .val (.double (FP.i2d b)), .second, .val (.double (FP.i2d d1)), .second, .val (.double (FP.i2d d2)), .second] [(.ref o)])) rfl (own_hb hby d3_15) (n := 36) (by decide) (by decide) (by decide) (by decide)
  refine own_Go.of (S' := (T24.setTop (mkF m 17 #[.val (.ref o), .val (.double (FP.i2d a)), .second, .val (.double (FP.i2d b)), .second, .val (.double (FP.i2d d1)), .second, .val (.double (FP.i2d d2)), .second] [(.ref sa24), (.ref o)]))) st24 ?_
  have hk25 := Nat.le_trans hk16 E24.1
  have f26 := f17.ext E24
  have f27 := f23.ext E24
  have f28 := f18.ext E24
  have f29 := f19.ext E24
  have f30 := f20.ext E24
  have z31 := Nat.le_trans z21 E24.1
  have kp32 := kp22.ext E24
  refine own_Go.of (S' := (T24.setTop (mkF m 18 #[.val (.ref o), .val (.double (FP.i2d a)), .second, .val (.double (FP.i2d b)), .second, .val (.double (FP.i2d d1)), .second, .val (.double (FP.i2d d2)), .second] [(.double (FP.i2d b)), (.ref sa24), (.ref o)]))) (fun t kt => ?_) ?_
  · show Steps p.tables e below (T24.setTop (mkF m 17 #[.val (.ref o), .val (.double (FP.i2d a)), .second, .val (.double (FP.i2d b)), .second, .val (.double (FP.i2d d1)), .second, .val (.double (FP.i2d d2)), .second] [(.ref sa24), (.ref o)])) _
    refine own_dloadN X24.here hx rfl (own_hb hby d3_17) rfl ?_
    exact kt
  obtain ⟨_, _, ⟨T33, L33, k33, n33⟩, -, X33, ⟨Lc33, hQ33, l33, y33, z33⟩, st33⟩ := Jvm.LawKit.callS X24 hx (y := (⟨"com/example/sagasu/sagasu/DataObject", "checkCoordinate", "(Ljava/lang/String;D)D"⟩ : MethodName)) hown (mvT hZ (hw _ (List.mem_of_getElem? (i := 24) rfl))) (mvT hZ (hw _ (List.mem_of_getElem? (i := 25) rfl))) (mvT hZ (hw _ (List.mem_of_getElem? (i := 26) rfl))) (mvT hZ (hw _ (List.mem_of_getElem? (i := 27) rfl))) (by decide) (backOf (W := 1) (rm5 l Z a0 hw [] sa24 b h24 n0 z31 ) hZ (hw _ (List.mem_of_getElem? (i := 27) rfl)) (hw _ (List.mem_of_getElem? (i := 26) rfl)) (by decide) (by decide)) (g := (mkF m 18 #[.val (.ref o), .val (.double (FP.i2d a)), .second, .val (.double (FP.i2d b)), .second, .val (.double (FP.i2d d1)), .second, .val (.double (FP.i2d d2)), .second] [(.double (FP.i2d b)), (.ref sa24), (.ref o)])) rfl (by rw [hml]; rfl) (argsL := [(.ref sa24), (.double (FP.i2d b))]) (rest := [(.ref o)]) (lenOf pd_1 rfl) rfl (by show 2 * 0 + _ ≤ _; exact Nat.le_of_eq rfl) (own_hb hby d3_18) (fun _ _ => ⟨rfl, e24, (by decide : 4 + 0 ≤ _), (by decide : 80 + 0 ≤ _)⟩)
  dsimp only [Pt.U, Pt.locs, Pt.cells, Pt.slots] at X33 l33 y33 z33 st33 hQ33
  subst l33 y33 z33
  obtain ⟨rfl, N33q, hh33⟩ := hQ33
  have N33 := Fr.app N15 N33q
  refine own_Go.of (S' := (T33.setTop (mkF m 21 #[.val (.ref o), .val (.double (FP.i2d a)), .second, .val (.double (FP.i2d b)), .second, .val (.double (FP.i2d d1)), .second, .val (.double (FP.i2d d2)), .second] [(.double (FP.i2d b)), (.ref o)]))) (fun t kt => st33 t kt) ?_
  obtain ⟨T34, h34, X34, e34, W34, st34⟩ := putF X33 hx hZ hown (host := "") (Or.inl (hw _ (List.mem_of_getElem? (i := 39) rfl))) Via.refl hh33 f28 f26 (Or.inr ⟨(hw _ (List.mem_of_getElem? (i := 40) rfl)), rfl, hnm⟩) (hw _ (List.mem_of_getElem? (i := 8) rfl)) (ty := .double) (by decide) rfl rfl (g := (mkF m 21 #[.val (.ref o), .val (.double (FP.i2d a)), .second, .val (.double (FP.i2d b)), .second, .val (.double (FP.i2d d1)), .second, .val (.double (FP.i2d d2)), .second] [(.double (FP.i2d b)), (.ref o)])) rfl rfl (own_hb hby d3_21)
  refine own_Go.of (S' := (T34.setTop (mkF m 24 #[.val (.ref o), .val (.double (FP.i2d a)), .second, .val (.double (FP.i2d b)), .second, .val (.double (FP.i2d d1)), .second, .val (.double (FP.i2d d2)), .second] []))) st34 ?_
  have hk35 := Nat.le_trans hk24 (Keep.of_wr W34).1
  have f36 := f26.wr W34
  have f37 := f27.other W34 (Or.inr (slot_ne (Or.inr (hw _ (List.mem_of_getElem? (i := 37) rfl))) (Or.inr (hw _ (List.mem_of_getElem? (i := 40) rfl))) (by decide) (t := .double) (t' := .double) (by decide) (by decide)))
  have f38 := f29.other W34 (Or.inr (slot_ne (Or.inr (hw _ (List.mem_of_getElem? (i := 43) rfl))) (Or.inr (hw _ (List.mem_of_getElem? (i := 40) rfl))) (by decide) (t := .double) (t' := .double) (by decide) (by decide)))
  have f39 := f30.other W34 (Or.inr (slot_ne (Or.inr (hw _ (List.mem_of_getElem? (i := 46) rfl))) (Or.inr (hw _ (List.mem_of_getElem? (i := 40) rfl))) (by decide) (t := .double) (t' := .double) (by decide) (by decide)))
  have z40 := Nat.le_trans z31 (Keep.of_wr W34).1
  have kp41 := kp32.wr W34 (Or.inl (List.mem_of_getElem? (i := 0) rfl))
  have f42 : Fld Z h34 o "com/example/sagasu/sagasu/Extent" "minY" "D" (.double (FP.i2d b)) := f28.same W34
  have N34 := Fr.snoc X34 N33 pr5
  refine own_Go.of (S' := (T34.setTop (mkF m 25 #[.val (.ref o), .val (.double (FP.i2d a)), .second, .val (.double (FP.i2d b)), .second, .val (.double (FP.i2d d1)), .second, .val (.double (FP.i2d d2)), .second] [(.ref o)]))) (fun t kt => ?_) ?_
  · show Steps p.tables e below (T34.setTop (mkF m 24 #[.val (.ref o), .val (.double (FP.i2d a)), .second, .val (.double (FP.i2d b)), .second, .val (.double (FP.i2d d1)), .second, .val (.double (FP.i2d d2)), .second] [])) _
    refine XS.aloadN X34.here hx rfl (own_hb hby d3_24) rfl rfl ?_
    exact kt
  obtain ⟨sa43, T43, h43, k43, X43, e43, E43, hS43, hk43, hZ, hown, st43⟩ := ldcS (vm0 := T24.vm) X34 hx hZ hown (hw _ (List.mem_of_getElem? (i := 41) rfl)) hwS e34 hS24 hk35 (g := (mkF m 25 #[.val (.ref o), .val (.double (FP.i2d a)), .second, .val (.double (FP.i2d b)), .second, .val (.double (FP.i2d d1)), .second, .val (.double (FP.i2d d2)), .second] [(.ref o)])) rfl (own_hb hby d3_25) (n := 36) (by decide) (by decide) (by decide) (by decide)
  refine own_Go.of (S' := (T43.setTop (mkF m 27 #[.val (.ref o), .val (.double (FP.i2d a)), .second, .val (.double (FP.i2d b)), .second, .val (.double (FP.i2d d1)), .second, .val (.double (FP.i2d d2)), .second] [(.ref sa43), (.ref o)]))) st43 ?_
  have hk44 := Nat.le_trans hk35 E43.1
  have f45 := f36.ext E43
  have f46 := f37.ext E43
  have f47 := f42.ext E43
  have f48 := f38.ext E43
  have f49 := f39.ext E43
  have z50 := Nat.le_trans z40 E43.1
  have kp51 := kp41.ext E43
  refine own_Go.of (S' := (T43.setTop (mkF m 29 #[.val (.ref o), .val (.double (FP.i2d a)), .second, .val (.double (FP.i2d b)), .second, .val (.double (FP.i2d d1)), .second, .val (.double (FP.i2d d2)), .second] [(.double (FP.i2d d1)), (.ref sa43), (.ref o)]))) (fun t kt => ?_) ?_
  · show Steps p.tables e below (T43.setTop (mkF m 27 #[.val (.ref o), .val (.double (FP.i2d a)), .second, .val (.double (FP.i2d b)), .second, .val (.double (FP.i2d d1)), .second, .val (.double (FP.i2d d2)), .second] [(.ref sa43), (.ref o)])) _
    refine own_dload X43.here hx rfl (own_hb hby d3_27) rfl ?_
    exact kt
  obtain ⟨_, _, ⟨T52, L52, k52, n52⟩, -, X52, ⟨Lc52, hQ52, l52, y52, z52⟩, st52⟩ := Jvm.LawKit.callS X43 hx (y := (⟨"com/example/sagasu/sagasu/DataObject", "checkCoordinate", "(Ljava/lang/String;D)D"⟩ : MethodName)) hown (mvT hZ (hw _ (List.mem_of_getElem? (i := 24) rfl))) (mvT hZ (hw _ (List.mem_of_getElem? (i := 25) rfl))) (mvT hZ (hw _ (List.mem_of_getElem? (i := 26) rfl))) (mvT hZ (hw _ (List.mem_of_getElem? (i := 27) rfl))) (by decide) (backOf (W := 1) (rm5 l Z a0 hw [] sa43 d1 h43 n0 z50 ) hZ (hw _ (List.mem_of_getElem? (i := 27) rfl)) (hw _ (List.mem_of_getElem? (i := 26) rfl)) (by decide) (by decide)) (g := (mkF m 29 #[.val (.ref o), .val (.double (FP.i2d a)), .second, .val (.double (FP.i2d b)), .second, .val (.double (FP.i2d d1)), .second, .val (.double (FP.i2d d2)), .second] [(.double (FP.i2d d1)), (.ref sa43), (.ref o)])) rfl (by rw [hml]; rfl) (argsL := [(.ref sa43), (.double (FP.i2d d1))]) (rest := [(.ref o)]) (lenOf pd_1 rfl) rfl (by show 2 * 0 + _ ≤ _; exact Nat.le_of_eq rfl) (own_hb hby d3_29) (fun _ _ => ⟨rfl, e43, (by decide : 6 + 0 ≤ _), (by decide : 120 + 0 ≤ _)⟩)
  dsimp only [Pt.U, Pt.locs, Pt.cells, Pt.slots] at X52 l52 y52 z52 st52 hQ52
  subst l52 y52 z52
  obtain ⟨rfl, N52q, hh52⟩ := hQ52
  have N52 := Fr.app N34 N52q
  refine own_Go.of (S' := (T52.setTop (mkF m 32 #[.val (.ref o), .val (.double (FP.i2d a)), .second, .val (.double (FP.i2d b)), .second, .val (.double (FP.i2d d1)), .second, .val (.double (FP.i2d d2)), .second] [(.double (FP.i2d d1)), (.ref o)]))) (fun t kt => st52 t kt) ?_
  obtain ⟨T53, h53, X53, e53, W53, st53⟩ := putF X52 hx hZ hown (host := "") (Or.inl (hw _ (List.mem_of_getElem? (i := 42) rfl))) Via.refl hh52 f48 f45 (Or.inr ⟨(hw _ (List.mem_of_getElem? (i := 43) rfl)), rfl, hnm⟩) (hw _ (List.mem_of_getElem? (i := 8) rfl)) (ty := .double) (by decide) rfl rfl (g := (mkF m 32 #[.val (.ref o), .val (.double (FP.i2d a)), .second, .val (.double (FP.i2d b)), .second, .val (.double (FP.i2d d1)), .second, .val (.double (FP.i2d d2)), .second] [(.double (FP.i2d d1)), (.ref o)])) rfl rfl (own_hb hby d3_32)
  refine own_Go.of (S' := (T53.setTop (mkF m 35 #[.val (.ref o), .val (.double (FP.i2d a)), .second, .val (.double (FP.i2d b)), .second, .val (.double (FP.i2d d1)), .second, .val (.double (FP.i2d d2)), .second] []))) st53 ?_
  have hk54 := Nat.le_trans hk43 (Keep.of_wr W53).1
  have f55 := f45.wr W53
  have f56 := f46.other W53 (Or.inr (slot_ne (Or.inr (hw _ (List.mem_of_getElem? (i := 37) rfl))) (Or.inr (hw _ (List.mem_of_getElem? (i := 43) rfl))) (by decide) (t := .double) (t' := .double) (by decide) (by decide)))
  have f57 := f47.other W53 (Or.inr (slot_ne (Or.inr (hw _ (List.mem_of_getElem? (i := 40) rfl))) (Or.inr (hw _ (List.mem_of_getElem? (i := 43) rfl))) (by decide) (t := .double) (t' := .double) (by decide) (by decide)))
  have f58 := f49.other W53 (Or.inr (slot_ne (Or.inr (hw _ (List.mem_of_getElem? (i := 46) rfl))) (Or.inr (hw _ (List.mem_of_getElem? (i := 43) rfl))) (by decide) (t := .double) (t' := .double) (by decide) (by decide)))
  have z59 := Nat.le_trans z50 (Keep.of_wr W53).1
  have kp60 := kp51.wr W53 (Or.inl (List.mem_of_getElem? (i := 0) rfl))
  have f61 : Fld Z h53 o "com/example/sagasu/sagasu/Extent" "maxX" "D" (.double (FP.i2d d1)) := f48.same W53
  have N53 := Fr.snoc X53 N52 pr5
  refine own_Go.of (S' := (T53.setTop (mkF m 36 #[.val (.ref o), .val (.double (FP.i2d a)), .second, .val (.double (FP.i2d b)), .second, .val (.double (FP.i2d d1)), .second, .val (.double (FP.i2d d2)), .second] [(.ref o)]))) (fun t kt => ?_) ?_
  · show Steps p.tables e below (T53.setTop (mkF m 35 #[.val (.ref o), .val (.double (FP.i2d a)), .second, .val (.double (FP.i2d b)), .second, .val (.double (FP.i2d d1)), .second, .val (.double (FP.i2d d2)), .second] [])) _
    refine XS.aloadN X53.here hx rfl (own_hb hby d3_35) rfl rfl ?_
    exact kt
  obtain ⟨sa62, T62, h62, k62, X62, e62, E62, hS62, hk62, hZ, hown, st62⟩ := ldcS (vm0 := T43.vm) X53 hx hZ hown (hw _ (List.mem_of_getElem? (i := 44) rfl)) hwS e53 hS43 hk54 (g := (mkF m 36 #[.val (.ref o), .val (.double (FP.i2d a)), .second, .val (.double (FP.i2d b)), .second, .val (.double (FP.i2d d1)), .second, .val (.double (FP.i2d d2)), .second] [(.ref o)])) rfl (own_hb hby d3_36) (n := 36) (by decide) (by decide) (by decide) (by decide)
  refine own_Go.of (S' := (T62.setTop (mkF m 38 #[.val (.ref o), .val (.double (FP.i2d a)), .second, .val (.double (FP.i2d b)), .second, .val (.double (FP.i2d d1)), .second, .val (.double (FP.i2d d2)), .second] [(.ref sa62), (.ref o)]))) st62 ?_
  have hk63 := Nat.le_trans hk54 E62.1
  have f64 := f55.ext E62
  have f65 := f56.ext E62
  have f66 := f57.ext E62
  have f67 := f61.ext E62
  have f68 := f58.ext E62
  have z69 := Nat.le_trans z59 E62.1
  have kp70 := kp60.ext E62
  refine own_Go.of (S' := (T62.setTop (mkF m 40 #[.val (.ref o), .val (.double (FP.i2d a)), .second, .val (.double (FP.i2d b)), .second, .val (.double (FP.i2d d1)), .second, .val (.double (FP.i2d d2)), .second] [(.double (FP.i2d d2)), (.ref sa62), (.ref o)]))) (fun t kt => ?_) ?_
  · show Steps p.tables e below (T62.setTop (mkF m 38 #[.val (.ref o), .val (.double (FP.i2d a)), .second, .val (.double (FP.i2d b)), .second, .val (.double (FP.i2d d1)), .second, .val (.double (FP.i2d d2)), .second] [(.ref sa62), (.ref o)])) _
    refine own_dload X62.here hx rfl (own_hb hby d3_38) rfl ?_
    exact kt
  obtain ⟨_, _, ⟨T71, L71, k71, n71⟩, -, X71, ⟨Lc71, hQ71, l71, y71, z71⟩, st71⟩ := Jvm.LawKit.callS X62 hx (y := (⟨"com/example/sagasu/sagasu/DataObject", "checkCoordinate", "(Ljava/lang/String;D)D"⟩ : MethodName)) hown (mvT hZ (hw _ (List.mem_of_getElem? (i := 24) rfl))) (mvT hZ (hw _ (List.mem_of_getElem? (i := 25) rfl))) (mvT hZ (hw _ (List.mem_of_getElem? (i := 26) rfl))) (mvT hZ (hw _ (List.mem_of_getElem? (i := 27) rfl))) (by decide) (backOf (W := 1) (rm5 l Z a0 hw [] sa62 d2 h62 n0 z69 ) hZ (hw _ (List.mem_of_getElem? (i := 27) rfl)) (hw _ (List.mem_of_getElem? (i := 26) rfl)) (by decide) (by decide)) (g := (mkF m 40 #[.val (.ref o), .val (.double (FP.i2d a)), .second, .val (.double (FP.i2d b)), .second, .val (.double (FP.i2d d1)), .second, .val (.double (FP.i2d d2)), .second] [(.double (FP.i2d d2)), (.ref sa62), (.ref o)])) rfl (by rw [hml]; rfl) (argsL := [(.ref sa62), (.double (FP.i2d d2))]) (rest := [(.ref o)]) (lenOf pd_1 rfl) rfl (by show 2 * 0 + _ ≤ _; exact Nat.le_of_eq rfl) (own_hb hby d3_40) (fun _ _ => ⟨rfl, e62, (by decide : 8 + 0 ≤ _), (by decide : 160 + 0 ≤ _)⟩)
  dsimp only [Pt.U, Pt.locs, Pt.cells, Pt.slots] at X71 l71 y71 z71 st71 hQ71
  subst l71 y71 z71
  obtain ⟨rfl, N71q, hh71⟩ := hQ71
  have N71 := Fr.app N53 N71q
  refine own_Go.of (S' := (T71.setTop (mkF m 43 #[.val (.ref o), .val (.double (FP.i2d a)), .second, .val (.double (FP.i2d b)), .second, .val (.double (FP.i2d d1)), .second, .val (.double (FP.i2d d2)), .second] [(.double (FP.i2d d2)), (.ref o)]))) (fun t kt => st71 t kt) ?_
  obtain ⟨T72, h72, X72, e72, W72, st72⟩ := putF X71 hx hZ hown (host := "") (Or.inl (hw _ (List.mem_of_getElem? (i := 45) rfl))) Via.refl hh71 f68 f64 (Or.inr ⟨(hw _ (List.mem_of_getElem? (i := 46) rfl)), rfl, hnm⟩) (hw _ (List.mem_of_getElem? (i := 8) rfl)) (ty := .double) (by decide) rfl rfl (g := (mkF m 43 #[.val (.ref o), .val (.double (FP.i2d a)), .second, .val (.double (FP.i2d b)), .second, .val (.double (FP.i2d d1)), .second, .val (.double (FP.i2d d2)), .second] [(.double (FP.i2d d2)), (.ref o)])) rfl rfl (own_hb hby d3_43)
  refine own_Go.of (S' := (T72.setTop (mkF m 46 #[.val (.ref o), .val (.double (FP.i2d a)), .second, .val (.double (FP.i2d b)), .second, .val (.double (FP.i2d d1)), .second, .val (.double (FP.i2d d2)), .second] []))) st72 ?_
  have hk73 := Nat.le_trans hk62 (Keep.of_wr W72).1
  have f74 := f64.wr W72
  have f75 := f65.other W72 (Or.inr (slot_ne (Or.inr (hw _ (List.mem_of_getElem? (i := 37) rfl))) (Or.inr (hw _ (List.mem_of_getElem? (i := 46) rfl))) (by decide) (t := .double) (t' := .double) (by decide) (by decide)))
  have f76 := f66.other W72 (Or.inr (slot_ne (Or.inr (hw _ (List.mem_of_getElem? (i := 40) rfl))) (Or.inr (hw _ (List.mem_of_getElem? (i := 46) rfl))) (by decide) (t := .double) (t' := .double) (by decide) (by decide)))
  have f77 := f67.other W72 (Or.inr (slot_ne (Or.inr (hw _ (List.mem_of_getElem? (i := 43) rfl))) (Or.inr (hw _ (List.mem_of_getElem? (i := 46) rfl))) (by decide) (t := .double) (t' := .double) (by decide) (by decide)))
  have z78 := Nat.le_trans z69 (Keep.of_wr W72).1
  have kp79 := kp70.wr W72 (Or.inl (List.mem_of_getElem? (i := 0) rfl))
  have f80 : Fld Z h72 o "com/example/sagasu/sagasu/Extent" "maxY" "D" (.double (FP.i2d d2)) := f68.same W72
  have N72 := Fr.snoc X72 N71 pr5
  refine own_Go.of (S' := (T72.setTop (mkF m 49 #[.val (.ref o), .val (.double (FP.i2d a)), .second, .val (.double (FP.i2d b)), .second, .val (.double (FP.i2d d1)), .second, .val (.double (FP.i2d d2)), .second] [(.double (FP.i2d a)), (.double (FP.i2d d1))]))) (fun t kt => ?_) ?_
  · show Steps p.tables e below (T72.setTop (mkF m 46 #[.val (.ref o), .val (.double (FP.i2d a)), .second, .val (.double (FP.i2d b)), .second, .val (.double (FP.i2d d1)), .second, .val (.double (FP.i2d d2)), .second] [])) _
    refine own_dload X72.here hx rfl (own_hb hby d3_46) rfl ?_
    show Steps p.tables e below (T72.setTop (mkF m 48 #[.val (.ref o), .val (.double (FP.i2d a)), .second, .val (.double (FP.i2d b)), .second, .val (.double (FP.i2d d1)), .second, .val (.double (FP.i2d d2)), .second] [(.double (FP.i2d d1))])) _
    refine own_dloadN X72.here hx rfl (own_hb hby d3_48) rfl ?_
    exact kt
  obtain ⟨zd81, ezd81, hlzd81, hgzd81⟩ := own_dnew d1 a .g
  refine own_Go.of (S' := (T72.setTop (mkF m 72 #[.val (.ref o), .val (.double (FP.i2d a)), .second, .val (.double (FP.i2d b)), .second, .val (.double (FP.i2d d1)), .second, .val (.double (FP.i2d d2)), .second] [(.double (FP.i2d b)), (.double (FP.i2d d2))]))) (fun t kt => ?_) ?_
  · show Steps p.tables e below (T72.setTop (mkF m 49 #[.val (.ref o), .val (.double (FP.i2d a)), .second, .val (.double (FP.i2d b)), .second, .val (.double (FP.i2d d1)), .second, .val (.double (FP.i2d d2)), .second] [(.double (FP.i2d a)), (.double (FP.i2d d1))])) _
    refine own_dcmpZ X72.here hx rfl (own_hb hby d3_49) rfl ezd81 ?_
    show Steps p.tables e below (T72.setTop (mkF m 50 #[.val (.ref o), .val (.double (FP.i2d a)), .second, .val (.double (FP.i2d b)), .second, .val (.double (FP.i2d d1)), .second, .val (.double (FP.i2d d2)), .second] [(.int zd81)])) _
    refine XS.ifYes X72.here hx rfl (pc0 := 50) (pc' := 69) rfl (own_hb hby d3_50) rfl ((if0 _ _).trans (flt (fun q => hx1 (hlzd81.mp q))).2.1) (by decide) (by decide) ?_
    show Steps p.tables e below (T72.setTop (mkF m 69 #[.val (.ref o), .val (.double (FP.i2d a)), .second, .val (.double (FP.i2d b)), .second, .val (.double (FP.i2d d1)), .second, .val (.double (FP.i2d d2)), .second] [])) _
    refine own_dload X72.here hx rfl (own_hb hby d3_69) rfl ?_
    show Steps p.tables e below (T72.setTop (mkF m 71 #[.val (.ref o), .val (.double (FP.i2d a)), .second, .val (.double (FP.i2d b)), .second, .val (.double (FP.i2d d1)), .second, .val (.double (FP.i2d d2)), .second] [(.double (FP.i2d d2))])) _
    refine own_dloadN X72.here hx rfl (own_hb hby d3_71) rfl ?_
    exact kt
  obtain ⟨zd82, ezd82, hlzd82, hgzd82⟩ := own_dnew d2 b .g
  refine own_Go.of (S' := (T72.setTop (mkF m 92 #[.val (.ref o), .val (.double (FP.i2d a)), .second, .val (.double (FP.i2d b)), .second, .val (.double (FP.i2d d1)), .second, .val (.double (FP.i2d d2)), .second] []))) (fun t kt => ?_) ?_
  · show Steps p.tables e below (T72.setTop (mkF m 72 #[.val (.ref o), .val (.double (FP.i2d a)), .second, .val (.double (FP.i2d b)), .second, .val (.double (FP.i2d d1)), .second, .val (.double (FP.i2d d2)), .second] [(.double (FP.i2d b)), (.double (FP.i2d d2))])) _
    refine own_dcmpZ X72.here hx rfl (own_hb hby d3_72) rfl ezd82 ?_
    show Steps p.tables e below (T72.setTop (mkF m 73 #[.val (.ref o), .val (.double (FP.i2d a)), .second, .val (.double (FP.i2d b)), .second, .val (.double (FP.i2d d1)), .second, .val (.double (FP.i2d d2)), .second] [(.int zd82)])) _
    refine XS.ifYes X72.here hx rfl (pc0 := 73) (pc' := 92) rfl (own_hb hby d3_73) rfl ((if0 _ _).trans (flt (fun q => hy1 (hlzd82.mp q))).2.1) (by decide) (by decide) ?_
    exact kt
  exact own_retVW (vm0 := T62.vm) X72 hS62 hk73 hx hlk hret (own_hb hby d3_92) e72 ⟨rfl, N72, kp79, f74, f75, f76, f77, f80⟩ (by decide) (by decide)
theorem d8_0 : decode prog_11_method_6_code 0 = .ok (.dload_n 1, 1) := by decide +kernel
theorem d8_1 : decode prog_11_method_6_code 1 = .ok (.aload_n 0, 1) := by decide +kernel
theorem d8_2 : decode prog_11_method_6_code 2 = .ok (.getfield 15, 3) := by decide +kernel
theorem d8_5 : decode prog_11_method_6_code 5 = .ok (.dcmp .l, 1) := by decide +kernel
theorem d8_6 : decode prog_11_method_6_code 6 = .ok (.ifCond .lt 34, 3) := by decide +kernel
theorem d8_9 : decode prog_11_method_6_code 9 = .ok (.dload_n 1, 1) := by decide +kernel
theorem d8_10 : decode prog_11_method_6_code 10 = .ok (.aload_n 0, 1) := by decide +kernel
theorem d8_11 : decode prog_11_method_6_code 11 = .ok (.getfield 28, 3) := by decide +kernel
theorem d8_14 : decode prog_11_method_6_code 14 = .ok (.dcmp .g, 1) := by decide +kernel
theorem d8_15 : decode prog_11_method_6_code 15 = .ok (.ifCond .gt 25, 3) := by decide +kernel
theorem d8_18 : decode prog_11_method_6_code 18 = .ok (.dload_n 3, 1) := by decide +kernel
theorem d8_19 : decode prog_11_method_6_code 19 = .ok (.aload_n 0, 1) := by decide +kernel
theorem d8_20 : decode prog_11_method_6_code 20 = .ok (.getfield 23, 3) := by decide +kernel
theorem d8_23 : decode prog_11_method_6_code 23 = .ok (.dcmp .l, 1) := by decide +kernel
theorem d8_24 : decode prog_11_method_6_code 24 = .ok (.ifCond .lt 16, 3) := by decide +kernel
theorem d8_27 : decode prog_11_method_6_code 27 = .ok (.dload_n 3, 1) := by decide +kernel
theorem d8_28 : decode prog_11_method_6_code 28 = .ok (.aload_n 0, 1) := by decide +kernel
theorem d8_29 : decode prog_11_method_6_code 29 = .ok (.getfield 33, 3) := by decide +kernel
theorem d8_32 : decode prog_11_method_6_code 32 = .ok (.dcmp .g, 1) := by decide +kernel
theorem d8_33 : decode prog_11_method_6_code 33 = .ok (.ifCond .gt 7, 3) := by decide +kernel
theorem d8_36 : decode prog_11_method_6_code 36 = .ok (.iconst 1, 1) := by decide +kernel
theorem d8_37 : decode prog_11_method_6_code 37 = .ok (.goto 4, 3) := by decide +kernel
theorem d8_40 : decode prog_11_method_6_code 40 = .ok (.iconst 0, 1) := by decide +kernel
theorem d8_41 : decode prog_11_method_6_code 41 = .ok (.ireturn, 1) := by decide +kernel
theorem pn_8 : plainName "com/example/sagasu/sagasu/Extent" = true := by first | (simp [plainName, overriddenIn]; done) | decide +kernel
def Q_rm8 (Z : State) (o : Addr) (u : Int32) (v1 : Int32) (a : Int32) (b : Int32) (d1 : Int32) (d2 : Int32) (h0 : Heap) (n0 : Nat) (v : Option Value) (h : Heap) (L : List Loc) : Prop := v = some (.int (own_in a b d1 d2 u v1)) ∧ Fr n0 L ∧ h = h0
set_option maxRecDepth 65536 in
set_option maxHeartbeats 40000000 in
theorem rm8 (l : Launch) (Z : State) (a0 : Array Value) (hw : ∀ d ∈ tables_1, d.before a0 Z = true) (ws : List Jvm.Cond) (o : Addr) (u : Int32) (v1 : Int32) (a : Int32) (b : Int32) (d1 : Int32) (d2 : Int32) (h0 : Heap) (n0 : Nat) (Z0 : n0 ≤ h0.size) (pr0 : Fld Z h0 o "com/example/sagasu/sagasu/Extent" "minX" "D" (.double (FP.i2d a))) (pr1 : Fld Z h0 o "com/example/sagasu/sagasu/Extent" "minY" "D" (.double (FP.i2d b))) (pr2 : Fld Z h0 o "com/example/sagasu/sagasu/Extent" "maxX" "D" (.double (FP.i2d d1))) (pr3 : Fld Z h0 o "com/example/sagasu/sagasu/Extent" "maxY" "D" (.double (FP.i2d d2))) :
    own_Met l Z h0 (⟨"com/example/sagasu/sagasu/Extent", "contains", "(DD)Z"⟩ : MethodName) prog_11_method_6_code 5 (some .boolean) ws ({ frames := 0, cells := 0, slots := 0, locals := 0 } : Room) #[(.ref o), (.double (FP.i2d u)), (.double (FP.i2d v1))] (Q_rm8 Z o u v1 a b d1 d2 h0 n0) := by
  refine own_enter (plainFor_of_name pn_8) ?_
  intro p e s m below meth c T0 X0 hx hby hml hret hlk hown hnm hZ e0
  have N0 := Fr.nil n0
  have ef0 : ∀ y0_ y1_ : UInt64, entryFrame m #[(.ref o), (.double y0_), (.double y1_)] 5 = (mkF m 0 #[.val (.ref o), .val (.double y0_), .second, .val (.double y1_), .second] []) := fun y0_ y1_ => by first | (simp [entryFrame, mkF, argsToLocals, Value.category]; done) | rfl
  rw [ef0 (FP.i2d u) (FP.i2d v1)]
  refine own_Go.of (S' := (T0.setTop (mkF m 2 #[.val (.ref o), .val (.double (FP.i2d u)), .second, .val (.double (FP.i2d v1)), .second] [(.ref o), (.double (FP.i2d u))]))) (fun t kt => ?_) ?_
  · show Steps p.tables e below (T0.setTop (mkF m 0 #[.val (.ref o), .val (.double (FP.i2d u)), .second, .val (.double (FP.i2d v1)), .second] [])) _
    refine own_dloadN X0.here hx rfl (own_hb hby d8_0) rfl ?_
    show Steps p.tables e below (T0.setTop (mkF m 1 #[.val (.ref o), .val (.double (FP.i2d u)), .second, .val (.double (FP.i2d v1)), .second] [(.double (FP.i2d u))])) _
    refine XS.aloadN X0.here hx rfl (own_hb hby d8_1) rfl rfl ?_
    exact kt
  obtain ⟨T83, X83, e83, st83⟩ := getF X0 hx hZ hown (host := "") (Or.inl (hw _ (List.mem_of_getElem? (i := 36) rfl))) Via.refl e0 pr0 (g := (mkF m 2 #[.val (.ref o), .val (.double (FP.i2d u)), .second, .val (.double (FP.i2d v1)), .second] [(.ref o), (.double (FP.i2d u))])) rfl rfl (own_hb hby d8_2)
  refine own_Go.of (S' := (T83.setTop (mkF m 5 #[.val (.ref o), .val (.double (FP.i2d u)), .second, .val (.double (FP.i2d v1)), .second] [(.double (FP.i2d a)), (.double (FP.i2d u))]))) st83 ?_
  obtain ⟨zd84, ezd84, hlzd84, hgzd84⟩ := own_dnew u a .l
  refine own_Go.of (S' := (T83.setTop (mkF m 6 #[.val (.ref o), .val (.double (FP.i2d u)), .second, .val (.double (FP.i2d v1)), .second] [(.int zd84)]))) (fun t kt => ?_) ?_
  · show Steps p.tables e below (T83.setTop (mkF m 5 #[.val (.ref o), .val (.double (FP.i2d u)), .second, .val (.double (FP.i2d v1)), .second] [(.double (FP.i2d a)), (.double (FP.i2d u))])) _
    refine own_dcmpZ X83.here hx rfl (own_hb hby d8_5) rfl ezd84 ?_
    exact kt
  by_cases hc6_85 : u < a
  · skip
    refine own_Go.of (S' := (T83.setTop (mkF m 41 #[.val (.ref o), .val (.double (FP.i2d u)), .second, .val (.double (FP.i2d v1)), .second] [(.int (0 : Int32))]))) (fun t kt => ?_) ?_
    · show Steps p.tables e below (T83.setTop (mkF m 6 #[.val (.ref o), .val (.double (FP.i2d u)), .second, .val (.double (FP.i2d v1)), .second] [(.int zd84)])) _
      refine XS.ifYes X83.here hx rfl (pc0 := 6) (pc' := 40) rfl (own_hb hby d8_6) rfl ((if0 _ _).trans (tlt (hlzd84.mpr hc6_85)).1) (by decide) (by decide) ?_
      show Steps p.tables e below (T83.setTop (mkF m 40 #[.val (.ref o), .val (.double (FP.i2d u)), .second, .val (.double (FP.i2d v1)), .second] [])) _
      refine XS.iconst X83.here hx rfl (own_hb hby d8_40) ?_
      exact kt
    exact own_retN X83 hx hlk (t := .boolean) hret (by simp) (own_hb hby d8_41) e83 ⟨by unfold own_in; rw [if_pos hc6_85]; rfl, N0, rfl⟩ (by decide) (by decide)
  · skip
    refine own_Go.of (S' := (T83.setTop (mkF m 11 #[.val (.ref o), .val (.double (FP.i2d u)), .second, .val (.double (FP.i2d v1)), .second] [(.ref o), (.double (FP.i2d u))]))) (fun t kt => ?_) ?_
    · show Steps p.tables e below (T83.setTop (mkF m 6 #[.val (.ref o), .val (.double (FP.i2d u)), .second, .val (.double (FP.i2d v1)), .second] [(.int zd84)])) _
      refine XS.ifNo X83.here hx rfl (own_hb hby d8_6) rfl ((if0 _ _).trans (flt (fun q => hc6_85 (hlzd84.mp q))).1) ?_
      show Steps p.tables e below (T83.setTop (mkF m 9 #[.val (.ref o), .val (.double (FP.i2d u)), .second, .val (.double (FP.i2d v1)), .second] [])) _
      refine own_dloadN X83.here hx rfl (own_hb hby d8_9) rfl ?_
      show Steps p.tables e below (T83.setTop (mkF m 10 #[.val (.ref o), .val (.double (FP.i2d u)), .second, .val (.double (FP.i2d v1)), .second] [(.double (FP.i2d u))])) _
      refine XS.aloadN X83.here hx rfl (own_hb hby d8_10) rfl rfl ?_
      exact kt
    obtain ⟨T86, X86, e86, st86⟩ := getF X83 hx hZ hown (host := "") (Or.inl (hw _ (List.mem_of_getElem? (i := 42) rfl))) Via.refl e83 pr2 (g := (mkF m 11 #[.val (.ref o), .val (.double (FP.i2d u)), .second, .val (.double (FP.i2d v1)), .second] [(.ref o), (.double (FP.i2d u))])) rfl rfl (own_hb hby d8_11)
    refine own_Go.of (S' := (T86.setTop (mkF m 14 #[.val (.ref o), .val (.double (FP.i2d u)), .second, .val (.double (FP.i2d v1)), .second] [(.double (FP.i2d d1)), (.double (FP.i2d u))]))) st86 ?_
    obtain ⟨zd87, ezd87, hlzd87, hgzd87⟩ := own_dnew u d1 .g
    refine own_Go.of (S' := (T86.setTop (mkF m 15 #[.val (.ref o), .val (.double (FP.i2d u)), .second, .val (.double (FP.i2d v1)), .second] [(.int zd87)]))) (fun t kt => ?_) ?_
    · show Steps p.tables e below (T86.setTop (mkF m 14 #[.val (.ref o), .val (.double (FP.i2d u)), .second, .val (.double (FP.i2d v1)), .second] [(.double (FP.i2d d1)), (.double (FP.i2d u))])) _
      refine own_dcmpZ X86.here hx rfl (own_hb hby d8_14) rfl ezd87 ?_
      exact kt
    by_cases hc15_88 : d1 < u
    · skip
      refine own_Go.of (S' := (T86.setTop (mkF m 41 #[.val (.ref o), .val (.double (FP.i2d u)), .second, .val (.double (FP.i2d v1)), .second] [(.int (0 : Int32))]))) (fun t kt => ?_) ?_
      · show Steps p.tables e below (T86.setTop (mkF m 15 #[.val (.ref o), .val (.double (FP.i2d u)), .second, .val (.double (FP.i2d v1)), .second] [(.int zd87)])) _
        refine XS.ifYes X86.here hx rfl (pc0 := 15) (pc' := 40) rfl (own_hb hby d8_15) rfl ((if0 _ _).trans (tlt (hgzd87.mpr hc15_88)).2.2.1) (by decide) (by decide) ?_
        show Steps p.tables e below (T86.setTop (mkF m 40 #[.val (.ref o), .val (.double (FP.i2d u)), .second, .val (.double (FP.i2d v1)), .second] [])) _
        refine XS.iconst X86.here hx rfl (own_hb hby d8_40) ?_
        exact kt
      exact own_retN X86 hx hlk (t := .boolean) hret (by simp) (own_hb hby d8_41) e86 ⟨by unfold own_in; rw [if_neg hc6_85, if_pos hc15_88]; rfl, N0, rfl⟩ (by decide) (by decide)
    · skip
      refine own_Go.of (S' := (T86.setTop (mkF m 20 #[.val (.ref o), .val (.double (FP.i2d u)), .second, .val (.double (FP.i2d v1)), .second] [(.ref o), (.double (FP.i2d v1))]))) (fun t kt => ?_) ?_
      · show Steps p.tables e below (T86.setTop (mkF m 15 #[.val (.ref o), .val (.double (FP.i2d u)), .second, .val (.double (FP.i2d v1)), .second] [(.int zd87)])) _
        refine XS.ifNo X86.here hx rfl (own_hb hby d8_15) rfl ((if0 _ _).trans (flt (fun q => hc15_88 (hgzd87.mp q))).2.2.1) ?_
        show Steps p.tables e below (T86.setTop (mkF m 18 #[.val (.ref o), .val (.double (FP.i2d u)), .second, .val (.double (FP.i2d v1)), .second] [])) _
        refine own_dloadN X86.here hx rfl (own_hb hby d8_18) rfl ?_
        show Steps p.tables e below (T86.setTop (mkF m 19 #[.val (.ref o), .val (.double (FP.i2d u)), .second, .val (.double (FP.i2d v1)), .second] [(.double (FP.i2d v1))])) _
        refine XS.aloadN X86.here hx rfl (own_hb hby d8_19) rfl rfl ?_
        exact kt
      obtain ⟨T89, X89, e89, st89⟩ := getF X86 hx hZ hown (host := "") (Or.inl (hw _ (List.mem_of_getElem? (i := 39) rfl))) Via.refl e86 pr1 (g := (mkF m 20 #[.val (.ref o), .val (.double (FP.i2d u)), .second, .val (.double (FP.i2d v1)), .second] [(.ref o), (.double (FP.i2d v1))])) rfl rfl (own_hb hby d8_20)
      refine own_Go.of (S' := (T89.setTop (mkF m 23 #[.val (.ref o), .val (.double (FP.i2d u)), .second, .val (.double (FP.i2d v1)), .second] [(.double (FP.i2d b)), (.double (FP.i2d v1))]))) st89 ?_
      obtain ⟨zd90, ezd90, hlzd90, hgzd90⟩ := own_dnew v1 b .l
      refine own_Go.of (S' := (T89.setTop (mkF m 24 #[.val (.ref o), .val (.double (FP.i2d u)), .second, .val (.double (FP.i2d v1)), .second] [(.int zd90)]))) (fun t kt => ?_) ?_
      · show Steps p.tables e below (T89.setTop (mkF m 23 #[.val (.ref o), .val (.double (FP.i2d u)), .second, .val (.double (FP.i2d v1)), .second] [(.double (FP.i2d b)), (.double (FP.i2d v1))])) _
        refine own_dcmpZ X89.here hx rfl (own_hb hby d8_23) rfl ezd90 ?_
        exact kt
      by_cases hc24_91 : v1 < b
      · skip
        refine own_Go.of (S' := (T89.setTop (mkF m 41 #[.val (.ref o), .val (.double (FP.i2d u)), .second, .val (.double (FP.i2d v1)), .second] [(.int (0 : Int32))]))) (fun t kt => ?_) ?_
        · show Steps p.tables e below (T89.setTop (mkF m 24 #[.val (.ref o), .val (.double (FP.i2d u)), .second, .val (.double (FP.i2d v1)), .second] [(.int zd90)])) _
          refine XS.ifYes X89.here hx rfl (pc0 := 24) (pc' := 40) rfl (own_hb hby d8_24) rfl ((if0 _ _).trans (tlt (hlzd90.mpr hc24_91)).1) (by decide) (by decide) ?_
          show Steps p.tables e below (T89.setTop (mkF m 40 #[.val (.ref o), .val (.double (FP.i2d u)), .second, .val (.double (FP.i2d v1)), .second] [])) _
          refine XS.iconst X89.here hx rfl (own_hb hby d8_40) ?_
          exact kt
        exact own_retN X89 hx hlk (t := .boolean) hret (by simp) (own_hb hby d8_41) e89 ⟨by unfold own_in; rw [if_neg hc6_85, if_neg hc15_88, if_pos hc24_91]; rfl, N0, rfl⟩ (by decide) (by decide)
      · skip
        refine own_Go.of (S' := (T89.setTop (mkF m 29 #[.val (.ref o), .val (.double (FP.i2d u)), .second, .val (.double (FP.i2d v1)), .second] [(.ref o), (.double (FP.i2d v1))]))) (fun t kt => ?_) ?_
        · show Steps p.tables e below (T89.setTop (mkF m 24 #[.val (.ref o), .val (.double (FP.i2d u)), .second, .val (.double (FP.i2d v1)), .second] [(.int zd90)])) _
          refine XS.ifNo X89.here hx rfl (own_hb hby d8_24) rfl ((if0 _ _).trans (flt (fun q => hc24_91 (hlzd90.mp q))).1) ?_
          show Steps p.tables e below (T89.setTop (mkF m 27 #[.val (.ref o), .val (.double (FP.i2d u)), .second, .val (.double (FP.i2d v1)), .second] [])) _
          refine own_dloadN X89.here hx rfl (own_hb hby d8_27) rfl ?_
          show Steps p.tables e below (T89.setTop (mkF m 28 #[.val (.ref o), .val (.double (FP.i2d u)), .second, .val (.double (FP.i2d v1)), .second] [(.double (FP.i2d v1))])) _
          refine XS.aloadN X89.here hx rfl (own_hb hby d8_28) rfl rfl ?_
          exact kt
        obtain ⟨T92, X92, e92, st92⟩ := getF X89 hx hZ hown (host := "") (Or.inl (hw _ (List.mem_of_getElem? (i := 45) rfl))) Via.refl e89 pr3 (g := (mkF m 29 #[.val (.ref o), .val (.double (FP.i2d u)), .second, .val (.double (FP.i2d v1)), .second] [(.ref o), (.double (FP.i2d v1))])) rfl rfl (own_hb hby d8_29)
        refine own_Go.of (S' := (T92.setTop (mkF m 32 #[.val (.ref o), .val (.double (FP.i2d u)), .second, .val (.double (FP.i2d v1)), .second] [(.double (FP.i2d d2)), (.double (FP.i2d v1))]))) st92 ?_
        obtain ⟨zd93, ezd93, hlzd93, hgzd93⟩ := own_dnew v1 d2 .g
        refine own_Go.of (S' := (T92.setTop (mkF m 33 #[.val (.ref o), .val (.double (FP.i2d u)), .second, .val (.double (FP.i2d v1)), .second] [(.int zd93)]))) (fun t kt => ?_) ?_
        · show Steps p.tables e below (T92.setTop (mkF m 32 #[.val (.ref o), .val (.double (FP.i2d u)), .second, .val (.double (FP.i2d v1)), .second] [(.double (FP.i2d d2)), (.double (FP.i2d v1))])) _
          refine own_dcmpZ X92.here hx rfl (own_hb hby d8_32) rfl ezd93 ?_
          exact kt
        by_cases hc33_94 : d2 < v1
        · skip
          refine own_Go.of (S' := (T92.setTop (mkF m 41 #[.val (.ref o), .val (.double (FP.i2d u)), .second, .val (.double (FP.i2d v1)), .second] [(.int (0 : Int32))]))) (fun t kt => ?_) ?_
          · show Steps p.tables e below (T92.setTop (mkF m 33 #[.val (.ref o), .val (.double (FP.i2d u)), .second, .val (.double (FP.i2d v1)), .second] [(.int zd93)])) _
            refine XS.ifYes X92.here hx rfl (pc0 := 33) (pc' := 40) rfl (own_hb hby d8_33) rfl ((if0 _ _).trans (tlt (hgzd93.mpr hc33_94)).2.2.1) (by decide) (by decide) ?_
            show Steps p.tables e below (T92.setTop (mkF m 40 #[.val (.ref o), .val (.double (FP.i2d u)), .second, .val (.double (FP.i2d v1)), .second] [])) _
            refine XS.iconst X92.here hx rfl (own_hb hby d8_40) ?_
            exact kt
          exact own_retN X92 hx hlk (t := .boolean) hret (by simp) (own_hb hby d8_41) e92 ⟨by unfold own_in; rw [if_neg hc6_85, if_neg hc15_88, if_neg hc24_91, if_pos hc33_94]; rfl, N0, rfl⟩ (by decide) (by decide)
        · skip
          refine own_Go.of (S' := (T92.setTop (mkF m 41 #[.val (.ref o), .val (.double (FP.i2d u)), .second, .val (.double (FP.i2d v1)), .second] [(.int (1 : Int32))]))) (fun t kt => ?_) ?_
          · show Steps p.tables e below (T92.setTop (mkF m 33 #[.val (.ref o), .val (.double (FP.i2d u)), .second, .val (.double (FP.i2d v1)), .second] [(.int zd93)])) _
            refine XS.ifNo X92.here hx rfl (own_hb hby d8_33) rfl ((if0 _ _).trans (flt (fun q => hc33_94 (hgzd93.mp q))).2.2.1) ?_
            show Steps p.tables e below (T92.setTop (mkF m 36 #[.val (.ref o), .val (.double (FP.i2d u)), .second, .val (.double (FP.i2d v1)), .second] [])) _
            refine XS.iconst X92.here hx rfl (own_hb hby d8_36) ?_
            show Steps p.tables e below (T92.setTop (mkF m 37 #[.val (.ref o), .val (.double (FP.i2d u)), .second, .val (.double (FP.i2d v1)), .second] [(.int (1 : Int32))])) _
            refine XS.goto X92.here hx rfl (pc0 := 37) (pc' := 41) rfl (own_hb hby d8_37) (by decide) (by decide) ?_
            exact kt
          exact own_retN X92 hx hlk (t := .boolean) hret (by simp) (own_hb hby d8_41) e92 ⟨by unfold own_in; rw [if_neg hc6_85, if_neg hc15_88, if_neg hc24_91, if_neg hc33_94]; rfl, N0, rfl⟩ (by decide) (by decide)
theorem d9_0 : decode method_2_code 0 = .ok (.iload_n 1, 1) := by decide +kernel
theorem d9_1 : decode method_2_code 1 = .ok (.iload_n 0, 1) := by decide +kernel
theorem d9_2 : decode method_2_code 2 = .ok (.iload_n 2, 1) := by decide +kernel
theorem d9_3 : decode method_2_code 3 = .ok (.invokestatic 7, 3) := by decide +kernel
theorem d9_6 : decode method_2_code 6 = .ok (.invokestatic 13, 3) := by decide +kernel
theorem d9_9 : decode method_2_code 9 = .ok (.iload_n 0, 1) := by decide +kernel
theorem d9_10 : decode method_2_code 10 = .ok (.if_icmp .ne 7, 3) := by decide +kernel
theorem d9_13 : decode method_2_code 13 = .ok (.iconst 1, 1) := by decide +kernel
theorem d9_14 : decode method_2_code 14 = .ok (.goto 4, 3) := by decide +kernel
theorem d9_17 : decode method_2_code 17 = .ok (.iconst 0, 1) := by decide +kernel
theorem d9_18 : decode method_2_code 18 = .ok (.ireturn, 1) := by decide +kernel
theorem pn_9 : plainName "com/example/sagasu/sagasu/ExtentContainsPinLaw" = true := by first | (simp [plainName, overriddenIn]; done) | decide +kernel
theorem pd_2 : parseMethodDescriptor "(II)I" = some ⟨[.int, .int], some .int⟩ := by decide +kernel
def Q_rm9 (Z : State) (q1 : Int32) (lo : Int32) (hi : Int32) (h0 : Heap) (n0 : Nat) (v : Option Value) (h : Heap) (L : List Loc) : Prop := v = some (.int (own_cl q1 lo hi)) ∧ Fr n0 L ∧ h = h0
set_option maxRecDepth 65536 in
set_option maxHeartbeats 40000000 in
theorem rm9 (l : Launch) (Z : State) (a0 : Array Value) (hw : ∀ d ∈ tables_1, d.before a0 Z = true) (ws : List Jvm.Cond) (q1 : Int32) (lo : Int32) (hi : Int32) (h0 : Heap) (n0 : Nat) (Z0 : n0 ≤ h0.size)  :
    own_Met l Z h0 (⟨"com/example/sagasu/sagasu/ExtentContainsPinLaw", "inClosed", "(III)Z"⟩ : MethodName) method_2_code 3 (some .boolean) ws ({ frames := 1, cells := 0, slots := 0, locals := 14 } : Room) #[(.int q1), (.int lo), (.int hi)] (Q_rm9 Z q1 lo hi h0 n0) := by
  refine own_enter (plainFor_of_name pn_9) ?_
  intro p e s m below meth c T0 X0 hx hby hml hret hlk hown hnm hZ e0
  have N0 := Fr.nil n0
  rw [show entryFrame m #[(.int q1), (.int lo), (.int hi)] 3 = (mkF m 0 #[.val (.int q1), .val (.int lo), .val (.int hi)] []) from by first | (simp [entryFrame, mkF, argsToLocals, Value.category]; done) | rfl]
  refine own_Go.of (S' := (T0.setTop (mkF m 3 #[.val (.int q1), .val (.int lo), .val (.int hi)] [(.int hi), (.int q1), (.int lo)]))) (fun t kt => ?_) ?_
  · show Steps p.tables e below (T0.setTop (mkF m 0 #[.val (.int q1), .val (.int lo), .val (.int hi)] [])) _
    refine XS.iloadN X0.here hx rfl (own_hb hby d9_0) rfl ?_
    show Steps p.tables e below (T0.setTop (mkF m 1 #[.val (.int q1), .val (.int lo), .val (.int hi)] [(.int lo)])) _
    refine XS.iloadN X0.here hx rfl (own_hb hby d9_1) rfl ?_
    show Steps p.tables e below (T0.setTop (mkF m 2 #[.val (.int q1), .val (.int lo), .val (.int hi)] [(.int q1), (.int lo)])) _
    refine XS.iloadN X0.here hx rfl (own_hb hby d9_2) rfl ?_
    exact kt
  obtain ⟨_, _, ⟨T95, L95, k95, n95⟩, -, X95, ⟨Lc95, hQ95, l95, y95, z95⟩, st95⟩ := Jvm.LawKit.callS X0 hx (y := (⟨"java/lang/Math", "min", "(II)I"⟩ : MethodName)) hown (mvT hZ (hw _ (List.mem_of_getElem? (i := 0) rfl))) (mvT hZ (hw _ (List.mem_of_getElem? (i := 1) rfl))) (mvT hZ (hw _ (List.mem_of_getElem? (i := 2) rfl))) (mvT hZ (hw _ (List.mem_of_getElem? (i := 3) rfl))) (by decide) (backOf (W := 1) (rm1 l Z a0 hw [] q1 hi h0 n0 Z0 ) hZ (hw _ (List.mem_of_getElem? (i := 3) rfl)) (hw _ (List.mem_of_getElem? (i := 2) rfl)) (by decide) (by decide)) (g := (mkF m 3 #[.val (.int q1), .val (.int lo), .val (.int hi)] [(.int hi), (.int q1), (.int lo)])) rfl (by rw [hml]; rfl) (argsL := [(.int q1), (.int hi)]) (rest := [(.int lo)]) (lenOf pd_2 rfl) rfl (by show 2 * 0 + _ ≤ _; exact Nat.le_of_eq rfl) (own_hb hby d9_3) (fun _ _ => ⟨rfl, e0, (by decide : 0 + 0 ≤ _), (by decide : 0 + 0 ≤ _)⟩)
  dsimp only [Pt.U, Pt.locs, Pt.cells, Pt.slots] at X95 l95 y95 z95 st95 hQ95
  subst l95 y95 z95
  obtain ⟨rfl, N95q, hh95⟩ := hQ95
  have N95 := Fr.app N0 N95q
  refine own_Go.of (S' := (T95.setTop (mkF m 6 #[.val (.int q1), .val (.int lo), .val (.int hi)] [(.int (own_min q1 hi)), (.int lo)]))) (fun t kt => st95 t kt) ?_
  obtain ⟨_, _, ⟨T96, L96, k96, n96⟩, -, X96, ⟨Lc96, hQ96, l96, y96, z96⟩, st96⟩ := Jvm.LawKit.callS X95 hx (y := (⟨"java/lang/Math", "max", "(II)I"⟩ : MethodName)) hown (mvT hZ (hw _ (List.mem_of_getElem? (i := 4) rfl))) (mvT hZ (hw _ (List.mem_of_getElem? (i := 5) rfl))) (mvT hZ (hw _ (List.mem_of_getElem? (i := 2) rfl))) (mvT hZ (hw _ (List.mem_of_getElem? (i := 6) rfl))) (by decide) (backOf (W := 0) (rm2 l Z a0 hw [] lo (own_min q1 hi) h0 n0 Z0 ) hZ (hw _ (List.mem_of_getElem? (i := 6) rfl)) (hw _ (List.mem_of_getElem? (i := 2) rfl)) (by decide) (by decide)) (g := (mkF m 6 #[.val (.int q1), .val (.int lo), .val (.int hi)] [(.int (own_min q1 hi)), (.int lo)])) rfl (by rw [hml]; rfl) (argsL := [(.int lo), (.int (own_min q1 hi))]) (rest := []) (lenOf pd_2 rfl) rfl (by show 2 * 0 + _ ≤ _; exact Nat.le_of_eq rfl) (own_hb hby d9_6) (fun _ _ => ⟨rfl, hh95, (by decide : 0 + 0 ≤ _), (by decide : 0 + 0 ≤ _)⟩)
  dsimp only [Pt.U, Pt.locs, Pt.cells, Pt.slots] at X96 l96 y96 z96 st96 hQ96
  subst l96 y96 z96
  obtain ⟨rfl, N96q, hh96⟩ := hQ96
  have N96 := Fr.app N95 N96q
  refine own_Go.of (S' := (T96.setTop (mkF m 9 #[.val (.int q1), .val (.int lo), .val (.int hi)] [(.int (own_max lo (own_min q1 hi)))]))) (fun t kt => st96 t kt) ?_
  refine own_Go.of (S' := (T96.setTop (mkF m 10 #[.val (.int q1), .val (.int lo), .val (.int hi)] [(.int q1), (.int (own_max lo (own_min q1 hi)))]))) (fun t kt => ?_) ?_
  · show Steps p.tables e below (T96.setTop (mkF m 9 #[.val (.int q1), .val (.int lo), .val (.int hi)] [(.int (own_max lo (own_min q1 hi)))])) _
    refine XS.iloadN X96.here hx rfl (own_hb hby d9_9) rfl ?_
    exact kt
  by_cases hc10_97 : (own_max lo (own_min q1 hi)) = q1
  · skip
    refine own_Go.of (S' := (T96.setTop (mkF m 18 #[.val (.int q1), .val (.int lo), .val (.int hi)] [(.int (1 : Int32))]))) (fun t kt => ?_) ?_
    · show Steps p.tables e below (T96.setTop (mkF m 10 #[.val (.int q1), .val (.int lo), .val (.int hi)] [(.int q1), (.int (own_max lo (own_min q1 hi)))])) _
      refine XS.icmpNo X96.here hx rfl (own_hb hby d9_10) rfl (teq hc10_97).2 ?_
      show Steps p.tables e below (T96.setTop (mkF m 13 #[.val (.int q1), .val (.int lo), .val (.int hi)] [])) _
      refine XS.iconst X96.here hx rfl (own_hb hby d9_13) ?_
      show Steps p.tables e below (T96.setTop (mkF m 14 #[.val (.int q1), .val (.int lo), .val (.int hi)] [(.int (1 : Int32))])) _
      refine XS.goto X96.here hx rfl (pc0 := 14) (pc' := 18) rfl (own_hb hby d9_14) (by decide) (by decide) ?_
      exact kt
    exact own_retN X96 hx hlk (t := .boolean) hret (by simp) (own_hb hby d9_18) hh96 ⟨by unfold own_cl; rw [if_pos hc10_97]; rfl, N96, rfl⟩ (by decide) (by decide)
  · skip
    refine own_Go.of (S' := (T96.setTop (mkF m 18 #[.val (.int q1), .val (.int lo), .val (.int hi)] [(.int (0 : Int32))]))) (fun t kt => ?_) ?_
    · show Steps p.tables e below (T96.setTop (mkF m 10 #[.val (.int q1), .val (.int lo), .val (.int hi)] [(.int q1), (.int (own_max lo (own_min q1 hi)))])) _
      refine XS.icmpYes X96.here hx rfl (pc0 := 10) (pc' := 17) rfl (own_hb hby d9_10) rfl (feq hc10_97).2 (by decide) (by decide) ?_
      show Steps p.tables e below (T96.setTop (mkF m 17 #[.val (.int q1), .val (.int lo), .val (.int hi)] [])) _
      refine XS.iconst X96.here hx rfl (own_hb hby d9_17) ?_
      exact kt
    exact own_retN X96 hx hlk (t := .boolean) hret (by simp) (own_hb hby d9_18) hh96 ⟨by unfold own_cl; rw [if_neg hc10_97]; rfl, N96, rfl⟩ (by decide) (by decide)

theorem own_nz {a : Int32} (h : a = 1) : ¬ a = 0 := fun q => absurd (h.symm.trans q) (by decide)
theorem own_cl_y {v lo hi : Int32} (h : ¬ hi < lo) (q : ¬ own_cl v lo hi = 0) : ¬ v < lo ∧ ¬ hi < v := by
  rw [own_cl_in v lo hi h] at q
  by_cases q1 : v < lo
  · rw [if_pos q1] at q; exact absurd rfl q
  · rw [if_neg q1] at q
    by_cases q2 : hi < v
    · rw [if_pos q2] at q; exact absurd rfl q
    · exact ⟨q1, q2⟩
theorem own_cl_n {v lo hi : Int32} (h : ¬ hi < lo) (q : own_cl v lo hi = 0) : v < lo ∨ hi < v := by
  rw [own_cl_in v lo hi h] at q
  by_cases q1 : v < lo
  · exact Or.inl q1
  · rw [if_neg q1] at q
    by_cases q2 : hi < v
    · exact Or.inr q2
    · rw [if_neg q2] at q; exact absurd q (by decide)
theorem own_f1 {a b c d u v : Int32} (h1 : ¬ c < a) (h2 : ¬ d < b) (q1 : ¬ own_cl u a c = 0) (q2 : ¬ own_cl v b d = 0) : own_in a b c d u v = 1 :=
  own_in_self a b c d u v (own_cl_y h1 q1).1 (own_cl_y h1 q1).2 (own_cl_y h2 q2).1 (own_cl_y h2 q2).2
theorem own_f2 {a b c d u v : Int32} (h1 : ¬ c < a) (q1 : own_cl u a c = 0) : own_in a b c d u v = 0 := by
  unfold own_in
  rcases own_cl_n h1 q1 with q | q
  · rw [if_pos q]
  · by_cases q2 : u < a
    · rw [if_pos q2]
    · rw [if_neg q2, if_pos q]
theorem own_f3 {a b c d u v : Int32} (h2 : ¬ d < b) (q1 : own_cl v b d = 0) : own_in a b c d u v = 0 := by
  unfold own_in
  by_cases q3 : u < a
  · rw [if_pos q3]
  · rw [if_neg q3]
    by_cases q4 : c < u
    · rw [if_pos q4]
    · rw [if_neg q4]
      rcases own_cl_n h2 q1 with q | q
      · rw [if_pos q]
      · by_cases q2 : v < b
        · rw [if_pos q2]
        · rw [if_neg q2, if_pos q]
def Q_rm0 (Z : State) (p0 : Int32) (p1 : Int32) (p2 : Int32) (p3 : Int32) (p4 : Int32) (p5 : Int32) (h0 : Heap) (n0 : Nat) (v : Option Value) (h : Heap) (L : List Loc) : Prop := v = some (.int (1 : Int32)) ∧ Fr n0 L
theorem pn_0 : plainName "com/example/sagasu/sagasu/ExtentContainsPinLaw" = true := by first | (simp [plainName, overriddenIn]; done) | decide +kernel
theorem pd_3 : parseMethodDescriptor "(DDDD)V" = some ⟨[.double, .double, .double, .double], none⟩ := by decide +kernel
theorem pd_4 : parseMethodDescriptor "(DD)Z" = some ⟨[.double, .double], some .boolean⟩ := by decide +kernel
theorem pd_5 : parseMethodDescriptor "(III)Z" = some ⟨[.int, .int, .int], some .boolean⟩ := by decide +kernel
set_option maxRecDepth 65536 in
set_option maxHeartbeats 40000000 in
theorem rm0 (l : Launch) (Z : State) (a0 : Array Value) (hw : ∀ d ∈ tables_1, d.before a0 Z = true) (ws : List Jvm.Cond) (p0 : Int32) (p1 : Int32) (p2 : Int32) (p3 : Int32) (p4 : Int32) (p5 : Int32) (h0 : Heap) (n0 : Nat) (Z0 : n0 ≤ h0.size)  :
    own_MetW l Z h0 x code maxLocals ret ws room_1 #[(.int p0), (.int p1), (.int p2), (.int p3), (.int p4), (.int p5)] (Q_rm0 Z p0 p1 p2 p3 p4 p5 h0 n0) := by
  refine own_enterW (plainFor_of_name pn_0) ?_
  intro p e s m below meth c T0 X0 hx hby hml hret hlk hown hnm hZ e0
  have N0 := Fr.nil n0
  have hS0 : s.Since s.vm 0 := (State.WarmedH.refl s).since 0
  have hk0 : 0 ≤ h0.size := Nat.zero_le _
  have hwS : ∀ a ∈ Bundle.stringAtoms, a.before a0 Z = true := fun d hd => hw d ((by decide +kernel : ∀ d ∈ Bundle.stringAtoms, d ∈ tables_1) d hd)
  rw [show entryFrame m #[(.int p0), (.int p1), (.int p2), (.int p3), (.int p4), (.int p5)] maxLocals = (mkF m 0 #[.val (.int p0), .val (.int p1), .val (.int p2), .val (.int p3), .val (.int p4), .val (.int p5), .unset, .unset, .unset, .unset, .unset, .unset, .unset, .unset, .unset, .unset] []) from by first | (simp [entryFrame, mkF, argsToLocals, Value.category, maxLocals]; done) | rfl]
  refine own_Go.of (S' := (T0.setTop (mkF m 2 #[.val (.int p0), .val (.int p1), .val (.int p2), .val (.int p3), .val (.int p4), .val (.int p5), .unset, .unset, .unset, .unset, .unset, .unset, .unset, .unset, .unset, .unset] [(.int p1), (.int p0)]))) (fun t kt => ?_) ?_
  · show Steps p.tables e below (T0.setTop (mkF m 0 #[.val (.int p0), .val (.int p1), .val (.int p2), .val (.int p3), .val (.int p4), .val (.int p5), .unset, .unset, .unset, .unset, .unset, .unset, .unset, .unset, .unset, .unset] [])) _
    refine XS.iloadN X0.here hx rfl (own_hb hby at_0) rfl ?_
    show Steps p.tables e below (T0.setTop (mkF m 1 #[.val (.int p0), .val (.int p1), .val (.int p2), .val (.int p3), .val (.int p4), .val (.int p5), .unset, .unset, .unset, .unset, .unset, .unset, .unset, .unset, .unset, .unset] [(.int p0)])) _
    refine XS.iloadN X0.here hx rfl (own_hb hby at_1) rfl ?_
    exact kt
  obtain ⟨_, _, ⟨T98, L98, k98, n98⟩, -, X98, ⟨Lc98, hQ98, l98, y98, z98⟩, st98⟩ := Jvm.LawKit.callS X0 hx (y := (⟨"java/lang/Math", "min", "(II)I"⟩ : MethodName)) hown (mvT hZ (hw _ (List.mem_of_getElem? (i := 0) rfl))) (mvT hZ (hw _ (List.mem_of_getElem? (i := 1) rfl))) (mvT hZ (hw _ (List.mem_of_getElem? (i := 2) rfl))) (mvT hZ (hw _ (List.mem_of_getElem? (i := 3) rfl))) (by decide) (backOf (W := 0) (rm1 l Z a0 hw [] p0 p1 h0 n0 Z0 ) hZ (hw _ (List.mem_of_getElem? (i := 3) rfl)) (hw _ (List.mem_of_getElem? (i := 2) rfl)) (by decide) (by decide)) (g := (mkF m 2 #[.val (.int p0), .val (.int p1), .val (.int p2), .val (.int p3), .val (.int p4), .val (.int p5), .unset, .unset, .unset, .unset, .unset, .unset, .unset, .unset, .unset, .unset] [(.int p1), (.int p0)])) rfl (by rw [hml]; rfl) (argsL := [(.int p0), (.int p1)]) (rest := []) (lenOf pd_2 rfl) rfl (by show 2 * 0 + _ ≤ _; exact Nat.le_of_eq rfl) (own_hb hby at_2) (fun _ _ => ⟨rfl, e0, (by decide : 0 + 0 ≤ _), (by decide : 0 + 0 ≤ _)⟩)
  dsimp only [Pt.U, Pt.locs, Pt.cells, Pt.slots] at X98 l98 y98 z98 st98 hQ98
  subst l98 y98 z98
  obtain ⟨rfl, N98q, hh98⟩ := hQ98
  have N98 := Fr.app N0 N98q
  refine own_Go.of (S' := (T98.setTop (mkF m 5 #[.val (.int p0), .val (.int p1), .val (.int p2), .val (.int p3), .val (.int p4), .val (.int p5), .unset, .unset, .unset, .unset, .unset, .unset, .unset, .unset, .unset, .unset] [(.int (own_min p0 p1))]))) (fun t kt => st98 t kt) ?_
  refine own_Go.of (S' := (T98.setTop (mkF m 9 #[.val (.int p0), .val (.int p1), .val (.int p2), .val (.int p3), .val (.int p4), .val (.int p5), .val (.int (own_min p0 p1)), .unset, .unset, .unset, .unset, .unset, .unset, .unset, .unset, .unset] [(.int p1), (.int p0)]))) (fun t kt => ?_) ?_
  · show Steps p.tables e below (T98.setTop (mkF m 5 #[.val (.int p0), .val (.int p1), .val (.int p2), .val (.int p3), .val (.int p4), .val (.int p5), .unset, .unset, .unset, .unset, .unset, .unset, .unset, .unset, .unset, .unset] [(.int (own_min p0 p1))])) _
    refine XS.istore X98.here hx rfl (own_hb hby at_5) rfl (l' := #[.val (.int p0), .val (.int p1), .val (.int p2), .val (.int p3), .val (.int p4), .val (.int p5), .val (.int (own_min p0 p1)), .unset, .unset, .unset, .unset, .unset, .unset, .unset, .unset, .unset]) rfl ?_
    show Steps p.tables e below (T98.setTop (mkF m 7 #[.val (.int p0), .val (.int p1), .val (.int p2), .val (.int p3), .val (.int p4), .val (.int p5), .val (.int (own_min p0 p1)), .unset, .unset, .unset, .unset, .unset, .unset, .unset, .unset, .unset] [])) _
    refine XS.iloadN X98.here hx rfl (own_hb hby at_7) rfl ?_
    show Steps p.tables e below (T98.setTop (mkF m 8 #[.val (.int p0), .val (.int p1), .val (.int p2), .val (.int p3), .val (.int p4), .val (.int p5), .val (.int (own_min p0 p1)), .unset, .unset, .unset, .unset, .unset, .unset, .unset, .unset, .unset] [(.int p0)])) _
    refine XS.iloadN X98.here hx rfl (own_hb hby at_8) rfl ?_
    exact kt
  obtain ⟨_, _, ⟨T99, L99, k99, n99⟩, -, X99, ⟨Lc99, hQ99, l99, y99, z99⟩, st99⟩ := Jvm.LawKit.callS X98 hx (y := (⟨"java/lang/Math", "max", "(II)I"⟩ : MethodName)) hown (mvT hZ (hw _ (List.mem_of_getElem? (i := 4) rfl))) (mvT hZ (hw _ (List.mem_of_getElem? (i := 5) rfl))) (mvT hZ (hw _ (List.mem_of_getElem? (i := 2) rfl))) (mvT hZ (hw _ (List.mem_of_getElem? (i := 6) rfl))) (by decide) (backOf (W := 0) (rm2 l Z a0 hw [] p0 p1 h0 n0 Z0 ) hZ (hw _ (List.mem_of_getElem? (i := 6) rfl)) (hw _ (List.mem_of_getElem? (i := 2) rfl)) (by decide) (by decide)) (g := (mkF m 9 #[.val (.int p0), .val (.int p1), .val (.int p2), .val (.int p3), .val (.int p4), .val (.int p5), .val (.int (own_min p0 p1)), .unset, .unset, .unset, .unset, .unset, .unset, .unset, .unset, .unset] [(.int p1), (.int p0)])) rfl (by rw [hml]; rfl) (argsL := [(.int p0), (.int p1)]) (rest := []) (lenOf pd_2 rfl) rfl (by show 2 * 0 + _ ≤ _; exact Nat.le_of_eq rfl) (own_hb hby at_9) (fun _ _ => ⟨rfl, hh98, (by decide : 0 + 0 ≤ _), (by decide : 0 + 0 ≤ _)⟩)
  dsimp only [Pt.U, Pt.locs, Pt.cells, Pt.slots] at X99 l99 y99 z99 st99 hQ99
  subst l99 y99 z99
  obtain ⟨rfl, N99q, hh99⟩ := hQ99
  have N99 := Fr.app N98 N99q
  refine own_Go.of (S' := (T99.setTop (mkF m 12 #[.val (.int p0), .val (.int p1), .val (.int p2), .val (.int p3), .val (.int p4), .val (.int p5), .val (.int (own_min p0 p1)), .unset, .unset, .unset, .unset, .unset, .unset, .unset, .unset, .unset] [(.int (own_max p0 p1))]))) (fun t kt => st99 t kt) ?_
  refine own_Go.of (S' := (T99.setTop (mkF m 16 #[.val (.int p0), .val (.int p1), .val (.int p2), .val (.int p3), .val (.int p4), .val (.int p5), .val (.int (own_min p0 p1)), .val (.int (own_max p0 p1)), .unset, .unset, .unset, .unset, .unset, .unset, .unset, .unset] [(.int p3), (.int p2)]))) (fun t kt => ?_) ?_
  · show Steps p.tables e below (T99.setTop (mkF m 12 #[.val (.int p0), .val (.int p1), .val (.int p2), .val (.int p3), .val (.int p4), .val (.int p5), .val (.int (own_min p0 p1)), .unset, .unset, .unset, .unset, .unset, .unset, .unset, .unset, .unset] [(.int (own_max p0 p1))])) _
    refine XS.istore X99.here hx rfl (own_hb hby at_12) rfl (l' := #[.val (.int p0), .val (.int p1), .val (.int p2), .val (.int p3), .val (.int p4), .val (.int p5), .val (.int (own_min p0 p1)), .val (.int (own_max p0 p1)), .unset, .unset, .unset, .unset, .unset, .unset, .unset, .unset]) rfl ?_
    show Steps p.tables e below (T99.setTop (mkF m 14 #[.val (.int p0), .val (.int p1), .val (.int p2), .val (.int p3), .val (.int p4), .val (.int p5), .val (.int (own_min p0 p1)), .val (.int (own_max p0 p1)), .unset, .unset, .unset, .unset, .unset, .unset, .unset, .unset] [])) _
    refine XS.iloadN X99.here hx rfl (own_hb hby at_14) rfl ?_
    show Steps p.tables e below (T99.setTop (mkF m 15 #[.val (.int p0), .val (.int p1), .val (.int p2), .val (.int p3), .val (.int p4), .val (.int p5), .val (.int (own_min p0 p1)), .val (.int (own_max p0 p1)), .unset, .unset, .unset, .unset, .unset, .unset, .unset, .unset] [(.int p2)])) _
    refine XS.iloadN X99.here hx rfl (own_hb hby at_15) rfl ?_
    exact kt
  obtain ⟨_, _, ⟨T100, L100, k100, n100⟩, -, X100, ⟨Lc100, hQ100, l100, y100, z100⟩, st100⟩ := Jvm.LawKit.callS X99 hx (y := (⟨"java/lang/Math", "min", "(II)I"⟩ : MethodName)) hown (mvT hZ (hw _ (List.mem_of_getElem? (i := 0) rfl))) (mvT hZ (hw _ (List.mem_of_getElem? (i := 1) rfl))) (mvT hZ (hw _ (List.mem_of_getElem? (i := 2) rfl))) (mvT hZ (hw _ (List.mem_of_getElem? (i := 3) rfl))) (by decide) (backOf (W := 0) (rm1 l Z a0 hw [] p2 p3 h0 n0 Z0 ) hZ (hw _ (List.mem_of_getElem? (i := 3) rfl)) (hw _ (List.mem_of_getElem? (i := 2) rfl)) (by decide) (by decide)) (g := (mkF m 16 #[.val (.int p0), .val (.int p1), .val (.int p2), .val (.int p3), .val (.int p4), .val (.int p5), .val (.int (own_min p0 p1)), .val (.int (own_max p0 p1)), .unset, .unset, .unset, .unset, .unset, .unset, .unset, .unset] [(.int p3), (.int p2)])) rfl (by rw [hml]; rfl) (argsL := [(.int p2), (.int p3)]) (rest := []) (lenOf pd_2 rfl) rfl (by show 2 * 0 + _ ≤ _; exact Nat.le_of_eq rfl) (own_hb hby at_16) (fun _ _ => ⟨rfl, hh99, (by decide : 0 + 0 ≤ _), (by decide : 0 + 0 ≤ _)⟩)
  dsimp only [Pt.U, Pt.locs, Pt.cells, Pt.slots] at X100 l100 y100 z100 st100 hQ100
  subst l100 y100 z100
  obtain ⟨rfl, N100q, hh100⟩ := hQ100
  have N100 := Fr.app N99 N100q
  refine own_Go.of (S' := (T100.setTop (mkF m 19 #[.val (.int p0), .val (.int p1), .val (.int p2), .val (.int p3), .val (.int p4), .val (.int p5), .val (.int (own_min p0 p1)), .val (.int (own_max p0 p1)), .unset, .unset, .unset, .unset, .unset, .unset, .unset, .unset] [(.int (own_min p2 p3))]))) (fun t kt => st100 t kt) ?_
  refine own_Go.of (S' := (T100.setTop (mkF m 23 #[.val (.int p0), .val (.int p1), .val (.int p2), .val (.int p3), .val (.int p4), .val (.int p5), .val (.int (own_min p0 p1)), .val (.int (own_max p0 p1)), .val (.int (own_min p2 p3)), .unset, .unset, .unset, .unset, .unset, .unset, .unset] [(.int p3), (.int p2)]))) (fun t kt => ?_) ?_
  · show Steps p.tables e below (T100.setTop (mkF m 19 #[.val (.int p0), .val (.int p1), .val (.int p2), .val (.int p3), .val (.int p4), .val (.int p5), .val (.int (own_min p0 p1)), .val (.int (own_max p0 p1)), .unset, .unset, .unset, .unset, .unset, .unset, .unset, .unset] [(.int (own_min p2 p3))])) _
    refine XS.istore X100.here hx rfl (own_hb hby at_19) rfl (l' := #[.val (.int p0), .val (.int p1), .val (.int p2), .val (.int p3), .val (.int p4), .val (.int p5), .val (.int (own_min p0 p1)), .val (.int (own_max p0 p1)), .val (.int (own_min p2 p3)), .unset, .unset, .unset, .unset, .unset, .unset, .unset]) rfl ?_
    show Steps p.tables e below (T100.setTop (mkF m 21 #[.val (.int p0), .val (.int p1), .val (.int p2), .val (.int p3), .val (.int p4), .val (.int p5), .val (.int (own_min p0 p1)), .val (.int (own_max p0 p1)), .val (.int (own_min p2 p3)), .unset, .unset, .unset, .unset, .unset, .unset, .unset] [])) _
    refine XS.iloadN X100.here hx rfl (own_hb hby at_21) rfl ?_
    show Steps p.tables e below (T100.setTop (mkF m 22 #[.val (.int p0), .val (.int p1), .val (.int p2), .val (.int p3), .val (.int p4), .val (.int p5), .val (.int (own_min p0 p1)), .val (.int (own_max p0 p1)), .val (.int (own_min p2 p3)), .unset, .unset, .unset, .unset, .unset, .unset, .unset] [(.int p2)])) _
    refine XS.iloadN X100.here hx rfl (own_hb hby at_22) rfl ?_
    exact kt
  obtain ⟨_, _, ⟨T101, L101, k101, n101⟩, -, X101, ⟨Lc101, hQ101, l101, y101, z101⟩, st101⟩ := Jvm.LawKit.callS X100 hx (y := (⟨"java/lang/Math", "max", "(II)I"⟩ : MethodName)) hown (mvT hZ (hw _ (List.mem_of_getElem? (i := 4) rfl))) (mvT hZ (hw _ (List.mem_of_getElem? (i := 5) rfl))) (mvT hZ (hw _ (List.mem_of_getElem? (i := 2) rfl))) (mvT hZ (hw _ (List.mem_of_getElem? (i := 6) rfl))) (by decide) (backOf (W := 0) (rm2 l Z a0 hw [] p2 p3 h0 n0 Z0 ) hZ (hw _ (List.mem_of_getElem? (i := 6) rfl)) (hw _ (List.mem_of_getElem? (i := 2) rfl)) (by decide) (by decide)) (g := (mkF m 23 #[.val (.int p0), .val (.int p1), .val (.int p2), .val (.int p3), .val (.int p4), .val (.int p5), .val (.int (own_min p0 p1)), .val (.int (own_max p0 p1)), .val (.int (own_min p2 p3)), .unset, .unset, .unset, .unset, .unset, .unset, .unset] [(.int p3), (.int p2)])) rfl (by rw [hml]; rfl) (argsL := [(.int p2), (.int p3)]) (rest := []) (lenOf pd_2 rfl) rfl (by show 2 * 0 + _ ≤ _; exact Nat.le_of_eq rfl) (own_hb hby at_23) (fun _ _ => ⟨rfl, hh100, (by decide : 0 + 0 ≤ _), (by decide : 0 + 0 ≤ _)⟩)
  dsimp only [Pt.U, Pt.locs, Pt.cells, Pt.slots] at X101 l101 y101 z101 st101 hQ101
  subst l101 y101 z101
  obtain ⟨rfl, N101q, hh101⟩ := hQ101
  have N101 := Fr.app N100 N101q
  refine own_Go.of (S' := (T101.setTop (mkF m 26 #[.val (.int p0), .val (.int p1), .val (.int p2), .val (.int p3), .val (.int p4), .val (.int p5), .val (.int (own_min p0 p1)), .val (.int (own_max p0 p1)), .val (.int (own_min p2 p3)), .unset, .unset, .unset, .unset, .unset, .unset, .unset] [(.int (own_max p2 p3))]))) (fun t kt => st101 t kt) ?_
  refine own_Go.of (S' := (T101.setTop (mkF m 28 #[.val (.int p0), .val (.int p1), .val (.int p2), .val (.int p3), .val (.int p4), .val (.int p5), .val (.int (own_min p0 p1)), .val (.int (own_max p0 p1)), .val (.int (own_min p2 p3)), .val (.int (own_max p2 p3)), .unset, .unset, .unset, .unset, .unset, .unset] []))) (fun t kt => ?_) ?_
  · show Steps p.tables e below (T101.setTop (mkF m 26 #[.val (.int p0), .val (.int p1), .val (.int p2), .val (.int p3), .val (.int p4), .val (.int p5), .val (.int (own_min p0 p1)), .val (.int (own_max p0 p1)), .val (.int (own_min p2 p3)), .unset, .unset, .unset, .unset, .unset, .unset, .unset] [(.int (own_max p2 p3))])) _
    refine XS.istore X101.here hx rfl (own_hb hby at_26) rfl (l' := #[.val (.int p0), .val (.int p1), .val (.int p2), .val (.int p3), .val (.int p4), .val (.int p5), .val (.int (own_min p0 p1)), .val (.int (own_max p0 p1)), .val (.int (own_min p2 p3)), .val (.int (own_max p2 p3)), .unset, .unset, .unset, .unset, .unset, .unset]) rfl ?_
    exact kt
  obtain ⟨T102, h102, X102, e102, E102, A102, D102, -, st102⟩ := newO X101 hx hZ hown (hw _ (List.mem_of_getElem? (i := 7) rfl)) (hw _ (List.mem_of_getElem? (i := 8) rfl)) (hw _ (List.mem_of_getElem? (i := 9) rfl)) hh101 (g := (mkF m 28 #[.val (.int p0), .val (.int p1), .val (.int p2), .val (.int p3), .val (.int p4), .val (.int p5), .val (.int (own_min p0 p1)), .val (.int (own_max p0 p1)), .val (.int (own_min p2 p3)), .val (.int (own_max p2 p3)), .unset, .unset, .unset, .unset, .unset, .unset] [])) rfl (own_hb hby at_28) (by decide) (by decide)
  obtain ⟨b102, g102⟩ : ∃ z, z = h0.size := ⟨_, rfl⟩
  rw [← g102] at A102 D102 st102
  have gx102 : n0 ≤ b102 := Nat.le_trans Z0 (Nat.le_of_eq g102.symm)
  refine own_Go.of (S' := (T102.setTop (mkF m 31 #[.val (.int p0), .val (.int p1), .val (.int p2), .val (.int p3), .val (.int p4), .val (.int p5), .val (.int (own_min p0 p1)), .val (.int (own_max p0 p1)), .val (.int (own_min p2 p3)), .val (.int (own_max p2 p3)), .unset, .unset, .unset, .unset, .unset, .unset] [(.ref b102)]))) st102 ?_
  have hk103 := Nat.le_trans hk0 E102.1
  have z104 := Nat.le_trans Z0 E102.1
  have f105 : Fld Z h102 b102 "com/example/sagasu/sagasu/Extent" "minX" "D" (.double 0) := D102 (Or.inr (hw _ (List.mem_of_getElem? (i := 37) rfl))) (ty := .double) (by decide)
  have f106 : Fld Z h102 b102 "com/example/sagasu/sagasu/Extent" "minY" "D" (.double 0) := D102 (Or.inr (hw _ (List.mem_of_getElem? (i := 40) rfl))) (ty := .double) (by decide)
  have f107 : Fld Z h102 b102 "com/example/sagasu/sagasu/Extent" "maxX" "D" (.double 0) := D102 (Or.inr (hw _ (List.mem_of_getElem? (i := 43) rfl))) (ty := .double) (by decide)
  have f108 : Fld Z h102 b102 "com/example/sagasu/sagasu/Extent" "maxY" "D" (.double 0) := D102 (Or.inr (hw _ (List.mem_of_getElem? (i := 46) rfl))) (ty := .double) (by decide)
  refine own_Go.of (S' := (T102.setTop (mkF m 44 #[.val (.int p0), .val (.int p1), .val (.int p2), .val (.int p3), .val (.int p4), .val (.int p5), .val (.int (own_min p0 p1)), .val (.int (own_max p0 p1)), .val (.int (own_min p2 p3)), .val (.int (own_max p2 p3)), .unset, .unset, .unset, .unset, .unset, .unset] [(.double (FP.i2d (own_max p2 p3))), (.double (FP.i2d (own_max p0 p1))), (.double (FP.i2d (own_min p2 p3))), (.double (FP.i2d (own_min p0 p1))), (.ref b102), (.ref b102)]))) (fun t kt => ?_) ?_
  · show Steps p.tables e below (T102.setTop (mkF m 31 #[.val (.int p0), .val (.int p1), .val (.int p2), .val (.int p3), .val (.int p4), .val (.int p5), .val (.int (own_min p0 p1)), .val (.int (own_max p0 p1)), .val (.int (own_min p2 p3)), .val (.int (own_max p2 p3)), .unset, .unset, .unset, .unset, .unset, .unset] [(.ref b102)])) _
    refine XS.dup X102.here hx rfl (own_hb hby at_31) rfl rfl ?_
    show Steps p.tables e below (T102.setTop (mkF m 32 #[.val (.int p0), .val (.int p1), .val (.int p2), .val (.int p3), .val (.int p4), .val (.int p5), .val (.int (own_min p0 p1)), .val (.int (own_max p0 p1)), .val (.int (own_min p2 p3)), .val (.int (own_max p2 p3)), .unset, .unset, .unset, .unset, .unset, .unset] [(.ref b102), (.ref b102)])) _
    refine XS.iload X102.here hx rfl (own_hb hby at_32) rfl ?_
    show Steps p.tables e below (T102.setTop (mkF m 34 #[.val (.int p0), .val (.int p1), .val (.int p2), .val (.int p3), .val (.int p4), .val (.int p5), .val (.int (own_min p0 p1)), .val (.int (own_max p0 p1)), .val (.int (own_min p2 p3)), .val (.int (own_max p2 p3)), .unset, .unset, .unset, .unset, .unset, .unset] [(.int (own_min p0 p1)), (.ref b102), (.ref b102)])) _
    refine own_i2d X102.here hx rfl (own_hb hby at_34) rfl ?_
    show Steps p.tables e below (T102.setTop (mkF m 35 #[.val (.int p0), .val (.int p1), .val (.int p2), .val (.int p3), .val (.int p4), .val (.int p5), .val (.int (own_min p0 p1)), .val (.int (own_max p0 p1)), .val (.int (own_min p2 p3)), .val (.int (own_max p2 p3)), .unset, .unset, .unset, .unset, .unset, .unset] [(.double (FP.i2d (own_min p0 p1))), (.ref b102), (.ref b102)])) _
    refine XS.iload X102.here hx rfl (own_hb hby at_35) rfl ?_
    show Steps p.tables e below (T102.setTop (mkF m 37 #[.val (.int p0), .val (.int p1), .val (.int p2), .val (.int p3), .val (.int p4), .val (.int p5), .val (.int (own_min p0 p1)), .val (.int (own_max p0 p1)), .val (.int (own_min p2 p3)), .val (.int (own_max p2 p3)), .unset, .unset, .unset, .unset, .unset, .unset] [(.int (own_min p2 p3)), (.double (FP.i2d (own_min p0 p1))), (.ref b102), (.ref b102)])) _
    refine own_i2d X102.here hx rfl (own_hb hby at_37) rfl ?_
    show Steps p.tables e below (T102.setTop (mkF m 38 #[.val (.int p0), .val (.int p1), .val (.int p2), .val (.int p3), .val (.int p4), .val (.int p5), .val (.int (own_min p0 p1)), .val (.int (own_max p0 p1)), .val (.int (own_min p2 p3)), .val (.int (own_max p2 p3)), .unset, .unset, .unset, .unset, .unset, .unset] [(.double (FP.i2d (own_min p2 p3))), (.double (FP.i2d (own_min p0 p1))), (.ref b102), (.ref b102)])) _
    refine XS.iload X102.here hx rfl (own_hb hby at_38) rfl ?_
    show Steps p.tables e below (T102.setTop (mkF m 40 #[.val (.int p0), .val (.int p1), .val (.int p2), .val (.int p3), .val (.int p4), .val (.int p5), .val (.int (own_min p0 p1)), .val (.int (own_max p0 p1)), .val (.int (own_min p2 p3)), .val (.int (own_max p2 p3)), .unset, .unset, .unset, .unset, .unset, .unset] [(.int (own_max p0 p1)), (.double (FP.i2d (own_min p2 p3))), (.double (FP.i2d (own_min p0 p1))), (.ref b102), (.ref b102)])) _
    refine own_i2d X102.here hx rfl (own_hb hby at_40) rfl ?_
    show Steps p.tables e below (T102.setTop (mkF m 41 #[.val (.int p0), .val (.int p1), .val (.int p2), .val (.int p3), .val (.int p4), .val (.int p5), .val (.int (own_min p0 p1)), .val (.int (own_max p0 p1)), .val (.int (own_min p2 p3)), .val (.int (own_max p2 p3)), .unset, .unset, .unset, .unset, .unset, .unset] [(.double (FP.i2d (own_max p0 p1))), (.double (FP.i2d (own_min p2 p3))), (.double (FP.i2d (own_min p0 p1))), (.ref b102), (.ref b102)])) _
    refine XS.iload X102.here hx rfl (own_hb hby at_41) rfl ?_
    show Steps p.tables e below (T102.setTop (mkF m 43 #[.val (.int p0), .val (.int p1), .val (.int p2), .val (.int p3), .val (.int p4), .val (.int p5), .val (.int (own_min p0 p1)), .val (.int (own_max p0 p1)), .val (.int (own_min p2 p3)), .val (.int (own_max p2 p3)), .unset, .unset, .unset, .unset, .unset, .unset] [(.int (own_max p2 p3)), (.double (FP.i2d (own_max p0 p1))), (.double (FP.i2d (own_min p2 p3))), (.double (FP.i2d (own_min p0 p1))), (.ref b102), (.ref b102)])) _
    refine own_i2d X102.here hx rfl (own_hb hby at_43) rfl ?_
    exact kt
  obtain ⟨_, _, ⟨T109, L109, k109, n109⟩, -, X109, hSn109, hgr109, ⟨Lc109, hQ109, l109, y109, z109⟩, st109⟩ := X102.specialBackS hx (y := (⟨"com/example/sagasu/sagasu/Extent", "<init>", "(DDDD)V"⟩ : MethodName)) rfl hown (mvT hZ (hw _ (List.mem_of_getElem? (i := 10) rfl))) (mvT hZ (hw _ (List.mem_of_getElem? (i := 11) rfl))) (mvT hZ (hw _ (List.mem_of_getElem? (i := 12) rfl))) (by decide) (backOfS (W := 1) (rm3 l Z a0 hw [] b102 (own_min p0 p1) (own_min p2 p3) (own_max p0 p1) (own_max p2 p3) 0 0 0 0 h102 n0 z104 A102 f105 f106 f107 f108 gx102 (own_mm p0 p1) (own_mm p2 p3)) hZ (hw _ (List.mem_of_getElem? (i := 12) rfl)) (hw _ (List.mem_of_getElem? (i := 9) rfl)) (by decide) (by decide)) (g := (mkF m 44 #[.val (.int p0), .val (.int p1), .val (.int p2), .val (.int p3), .val (.int p4), .val (.int p5), .val (.int (own_min p0 p1)), .val (.int (own_max p0 p1)), .val (.int (own_min p2 p3)), .val (.int (own_max p2 p3)), .unset, .unset, .unset, .unset, .unset, .unset] [(.double (FP.i2d (own_max p2 p3))), (.double (FP.i2d (own_max p0 p1))), (.double (FP.i2d (own_min p2 p3))), (.double (FP.i2d (own_min p0 p1))), (.ref b102), (.ref b102)])) rfl (by rw [hml]; rfl) (Steps.refl _) (a := b102) (argsL := [(.double (FP.i2d (own_min p0 p1))), (.double (FP.i2d (own_min p2 p3))), (.double (FP.i2d (own_max p0 p1))), (.double (FP.i2d (own_max p2 p3)))]) (rest := [(.ref b102)]) (lenOf pd_3 rfl) rfl (by show 2 * 0 + _ ≤ _; exact Nat.le_of_eq rfl) (own_hb hby at_44) (fun _ _ => ⟨rfl, e102, (by decide : 1 + 8 ≤ _), (by decide : 4 + 160 ≤ _)⟩)
  dsimp only [Pt.U, Pt.locs, Pt.cells, Pt.slots] at X109 l109 y109 z109 st109 hQ109 hSn109 hgr109
  subst l109 y109 z109
  have hgq109 : h102.size ≤ T109.heap.size := by rw [← e102]; exact hgr109
  obtain ⟨X109, hS109, hZ, hown⟩ := rebS (vm0 := s.vm) hS0 hk103 X109 hSn109 hgq109 hZ hown
  obtain ⟨rfl, N109q, K109, p109_0, p109_1, p109_2, p109_3, p109_4⟩ := hQ109
  have N109 := Fr.app N101 N109q
  refine own_Go.of (S' := (T109.setTop (mkF m 47 #[.val (.int p0), .val (.int p1), .val (.int p2), .val (.int p3), .val (.int p4), .val (.int p5), .val (.int (own_min p0 p1)), .val (.int (own_max p0 p1)), .val (.int (own_min p2 p3)), .val (.int (own_max p2 p3)), .unset, .unset, .unset, .unset, .unset, .unset] [(.ref b102)]))) (fun t kt => st109.trans kt) ?_
  have f110 := A102.keep K109
  have z111 := Nat.le_trans z104 K109.1
  refine own_Go.of (S' := (T109.setTop (mkF m 57 #[.val (.int p0), .val (.int p1), .val (.int p2), .val (.int p3), .val (.int p4), .val (.int p5), .val (.int (own_min p0 p1)), .val (.int (own_max p0 p1)), .val (.int (own_min p2 p3)), .val (.int (own_max p2 p3)), .val (.ref b102), .unset, .unset, .unset, .unset, .unset] [(.double (FP.i2d p5)), (.double (FP.i2d p4)), (.ref b102)]))) (fun t kt => ?_) ?_
  · show Steps p.tables e below (T109.setTop (mkF m 47 #[.val (.int p0), .val (.int p1), .val (.int p2), .val (.int p3), .val (.int p4), .val (.int p5), .val (.int (own_min p0 p1)), .val (.int (own_max p0 p1)), .val (.int (own_min p2 p3)), .val (.int (own_max p2 p3)), .unset, .unset, .unset, .unset, .unset, .unset] [(.ref b102)])) _
    refine XS.astore X109.here hx rfl (own_hb hby at_47) rfl rfl (l' := #[.val (.int p0), .val (.int p1), .val (.int p2), .val (.int p3), .val (.int p4), .val (.int p5), .val (.int (own_min p0 p1)), .val (.int (own_max p0 p1)), .val (.int (own_min p2 p3)), .val (.int (own_max p2 p3)), .val (.ref b102), .unset, .unset, .unset, .unset, .unset]) rfl ?_
    show Steps p.tables e below (T109.setTop (mkF m 49 #[.val (.int p0), .val (.int p1), .val (.int p2), .val (.int p3), .val (.int p4), .val (.int p5), .val (.int (own_min p0 p1)), .val (.int (own_max p0 p1)), .val (.int (own_min p2 p3)), .val (.int (own_max p2 p3)), .val (.ref b102), .unset, .unset, .unset, .unset, .unset] [])) _
    refine XS.aload X109.here hx rfl (own_hb hby at_49) rfl rfl ?_
    show Steps p.tables e below (T109.setTop (mkF m 51 #[.val (.int p0), .val (.int p1), .val (.int p2), .val (.int p3), .val (.int p4), .val (.int p5), .val (.int (own_min p0 p1)), .val (.int (own_max p0 p1)), .val (.int (own_min p2 p3)), .val (.int (own_max p2 p3)), .val (.ref b102), .unset, .unset, .unset, .unset, .unset] [(.ref b102)])) _
    refine XS.iload X109.here hx rfl (own_hb hby at_51) rfl ?_
    show Steps p.tables e below (T109.setTop (mkF m 53 #[.val (.int p0), .val (.int p1), .val (.int p2), .val (.int p3), .val (.int p4), .val (.int p5), .val (.int (own_min p0 p1)), .val (.int (own_max p0 p1)), .val (.int (own_min p2 p3)), .val (.int (own_max p2 p3)), .val (.ref b102), .unset, .unset, .unset, .unset, .unset] [(.int p4), (.ref b102)])) _
    refine own_i2d X109.here hx rfl (own_hb hby at_53) rfl ?_
    show Steps p.tables e below (T109.setTop (mkF m 54 #[.val (.int p0), .val (.int p1), .val (.int p2), .val (.int p3), .val (.int p4), .val (.int p5), .val (.int (own_min p0 p1)), .val (.int (own_max p0 p1)), .val (.int (own_min p2 p3)), .val (.int (own_max p2 p3)), .val (.ref b102), .unset, .unset, .unset, .unset, .unset] [(.double (FP.i2d p4)), (.ref b102)])) _
    refine XS.iload X109.here hx rfl (own_hb hby at_54) rfl ?_
    show Steps p.tables e below (T109.setTop (mkF m 56 #[.val (.int p0), .val (.int p1), .val (.int p2), .val (.int p3), .val (.int p4), .val (.int p5), .val (.int (own_min p0 p1)), .val (.int (own_max p0 p1)), .val (.int (own_min p2 p3)), .val (.int (own_max p2 p3)), .val (.ref b102), .unset, .unset, .unset, .unset, .unset] [(.int p5), (.double (FP.i2d p4)), (.ref b102)])) _
    refine own_i2d X109.here hx rfl (own_hb hby at_56) rfl ?_
    exact kt
  obtain ⟨cq112, kq112, q112a, q112b, q112c⟩ := isOf hZ rfl p109_0
  obtain ⟨_, _, ⟨T112, L112, k112, n112⟩, -, X112, ⟨Lc112, hQ112, l112, y112, z112⟩, st112⟩ := X109.virtualBack hx (y := (⟨"com/example/sagasu/sagasu/Extent", "contains", "(DD)Z"⟩ : MethodName)) (z := (⟨"com/example/sagasu/sagasu/Extent", "contains", "(DD)Z"⟩ : MethodName)) hown (mvT hZ (hw _ (List.mem_of_getElem? (i := 47) rfl))) (mvT hZ (hw _ (List.mem_of_getElem? (i := 48) rfl))) (notFace_of_selects (args := #[]) (mvT hZ (hw _ (List.mem_of_getElem? (i := 50) rfl)))) (mvT hZ (hw _ (List.mem_of_getElem? (i := 50) rfl))) (mvT hZ (hw _ (List.mem_of_getElem? (i := 49) rfl))) (by decide) (backOf (W := 0) (rm8 l Z a0 hw [] b102 p4 p5 (own_min p0 p1) (own_min p2 p3) (own_max p0 p1) (own_max p2 p3) T109.heap n0 z111 p109_1 p109_2 p109_3 p109_4) hZ (hw _ (List.mem_of_getElem? (i := 51) rfl)) (hw _ (List.mem_of_getElem? (i := 9) rfl)) (by decide) (by decide)) q112a q112c (g := (mkF m 57 #[.val (.int p0), .val (.int p1), .val (.int p2), .val (.int p3), .val (.int p4), .val (.int p5), .val (.int (own_min p0 p1)), .val (.int (own_max p0 p1)), .val (.int (own_min p2 p3)), .val (.int (own_max p2 p3)), .val (.ref b102), .unset, .unset, .unset, .unset, .unset] [(.double (FP.i2d p5)), (.double (FP.i2d p4)), (.ref b102)])) rfl (by rw [hml]; rfl) (Steps.refl _) (argsL := [(.double (FP.i2d p4)), (.double (FP.i2d p5))]) (rest := []) (lenOf pd_4 rfl) rfl (by show 2 * 0 + _ ≤ _; exact Nat.le_of_eq rfl) (own_hb hby at_57) (fun _ _ => ⟨rfl, rfl, (by decide : 9 + 0 ≤ _), (by decide : 164 + 0 ≤ _)⟩)
  dsimp only [Pt.U, Pt.locs, Pt.cells, Pt.slots] at X112 l112 y112 z112 st112 hQ112
  subst l112 y112 z112
  obtain ⟨rfl, N112q, hh112⟩ := hQ112
  have N112 := Fr.app N109 N112q
  refine own_Go.of (S' := (T112.setTop (mkF m 60 #[.val (.int p0), .val (.int p1), .val (.int p2), .val (.int p3), .val (.int p4), .val (.int p5), .val (.int (own_min p0 p1)), .val (.int (own_max p0 p1)), .val (.int (own_min p2 p3)), .val (.int (own_max p2 p3)), .val (.ref b102), .unset, .unset, .unset, .unset, .unset] [(.int (own_in (own_min p0 p1) (own_min p2 p3) (own_max p0 p1) (own_max p2 p3) p4 p5))]))) (fun t kt => st112.trans kt) ?_
  refine own_Go.of (S' := (T112.setTop (mkF m 68 #[.val (.int p0), .val (.int p1), .val (.int p2), .val (.int p3), .val (.int p4), .val (.int p5), .val (.int (own_min p0 p1)), .val (.int (own_max p0 p1)), .val (.int (own_min p2 p3)), .val (.int (own_max p2 p3)), .val (.ref b102), .val (.int (own_in (own_min p0 p1) (own_min p2 p3) (own_max p0 p1) (own_max p2 p3) p4 p5)), .unset, .unset, .unset, .unset] [(.int (own_max p0 p1)), (.int (own_min p0 p1)), (.int p4)]))) (fun t kt => ?_) ?_
  · show Steps p.tables e below (T112.setTop (mkF m 60 #[.val (.int p0), .val (.int p1), .val (.int p2), .val (.int p3), .val (.int p4), .val (.int p5), .val (.int (own_min p0 p1)), .val (.int (own_max p0 p1)), .val (.int (own_min p2 p3)), .val (.int (own_max p2 p3)), .val (.ref b102), .unset, .unset, .unset, .unset, .unset] [(.int (own_in (own_min p0 p1) (own_min p2 p3) (own_max p0 p1) (own_max p2 p3) p4 p5))])) _
    refine XS.istore X112.here hx rfl (own_hb hby at_60) rfl (l' := #[.val (.int p0), .val (.int p1), .val (.int p2), .val (.int p3), .val (.int p4), .val (.int p5), .val (.int (own_min p0 p1)), .val (.int (own_max p0 p1)), .val (.int (own_min p2 p3)), .val (.int (own_max p2 p3)), .val (.ref b102), .val (.int (own_in (own_min p0 p1) (own_min p2 p3) (own_max p0 p1) (own_max p2 p3) p4 p5)), .unset, .unset, .unset, .unset]) rfl ?_
    show Steps p.tables e below (T112.setTop (mkF m 62 #[.val (.int p0), .val (.int p1), .val (.int p2), .val (.int p3), .val (.int p4), .val (.int p5), .val (.int (own_min p0 p1)), .val (.int (own_max p0 p1)), .val (.int (own_min p2 p3)), .val (.int (own_max p2 p3)), .val (.ref b102), .val (.int (own_in (own_min p0 p1) (own_min p2 p3) (own_max p0 p1) (own_max p2 p3) p4 p5)), .unset, .unset, .unset, .unset] [])) _
    refine XS.iload X112.here hx rfl (own_hb hby at_62) rfl ?_
    show Steps p.tables e below (T112.setTop (mkF m 64 #[.val (.int p0), .val (.int p1), .val (.int p2), .val (.int p3), .val (.int p4), .val (.int p5), .val (.int (own_min p0 p1)), .val (.int (own_max p0 p1)), .val (.int (own_min p2 p3)), .val (.int (own_max p2 p3)), .val (.ref b102), .val (.int (own_in (own_min p0 p1) (own_min p2 p3) (own_max p0 p1) (own_max p2 p3) p4 p5)), .unset, .unset, .unset, .unset] [(.int p4)])) _
    refine XS.iload X112.here hx rfl (own_hb hby at_64) rfl ?_
    show Steps p.tables e below (T112.setTop (mkF m 66 #[.val (.int p0), .val (.int p1), .val (.int p2), .val (.int p3), .val (.int p4), .val (.int p5), .val (.int (own_min p0 p1)), .val (.int (own_max p0 p1)), .val (.int (own_min p2 p3)), .val (.int (own_max p2 p3)), .val (.ref b102), .val (.int (own_in (own_min p0 p1) (own_min p2 p3) (own_max p0 p1) (own_max p2 p3) p4 p5)), .unset, .unset, .unset, .unset] [(.int (own_min p0 p1)), (.int p4)])) _
    refine XS.iload X112.here hx rfl (own_hb hby at_66) rfl ?_
    exact kt
  obtain ⟨_, _, ⟨T113, L113, k113, n113⟩, -, X113, ⟨Lc113, hQ113, l113, y113, z113⟩, st113⟩ := Jvm.LawKit.callS X112 hx (y := (⟨"com/example/sagasu/sagasu/ExtentContainsPinLaw", "inClosed", "(III)Z"⟩ : MethodName)) hown (mvT hZ (hw _ (List.mem_of_getElem? (i := 52) rfl))) (mvT hZ (hw _ (List.mem_of_getElem? (i := 53) rfl))) (mvT hZ (hw _ (List.mem_of_getElem? (i := 54) rfl))) (mvT hZ (hw _ (List.mem_of_getElem? (i := 55) rfl))) (by decide) (backOf (W := 0) (rm9 l Z a0 hw [] p4 (own_min p0 p1) (own_max p0 p1) T109.heap n0 z111 ) hZ (hw _ (List.mem_of_getElem? (i := 55) rfl)) (hw _ (List.mem_of_getElem? (i := 54) rfl)) (by decide) (by decide)) (g := (mkF m 68 #[.val (.int p0), .val (.int p1), .val (.int p2), .val (.int p3), .val (.int p4), .val (.int p5), .val (.int (own_min p0 p1)), .val (.int (own_max p0 p1)), .val (.int (own_min p2 p3)), .val (.int (own_max p2 p3)), .val (.ref b102), .val (.int (own_in (own_min p0 p1) (own_min p2 p3) (own_max p0 p1) (own_max p2 p3) p4 p5)), .unset, .unset, .unset, .unset] [(.int (own_max p0 p1)), (.int (own_min p0 p1)), (.int p4)])) rfl (by rw [hml]; rfl) (argsL := [(.int p4), (.int (own_min p0 p1)), (.int (own_max p0 p1))]) (rest := []) (lenOf pd_5 rfl) rfl (by show 2 * 0 + _ ≤ _; exact Nat.le_of_eq rfl) (own_hb hby at_68) (fun _ _ => ⟨rfl, hh112, (by decide : 9 + 0 ≤ _), (by decide : 164 + 0 ≤ _)⟩)
  dsimp only [Pt.U, Pt.locs, Pt.cells, Pt.slots] at X113 l113 y113 z113 st113 hQ113
  subst l113 y113 z113
  obtain ⟨rfl, N113q, hh113⟩ := hQ113
  have N113 := Fr.app N112 N113q
  refine own_Go.of (S' := (T113.setTop (mkF m 71 #[.val (.int p0), .val (.int p1), .val (.int p2), .val (.int p3), .val (.int p4), .val (.int p5), .val (.int (own_min p0 p1)), .val (.int (own_max p0 p1)), .val (.int (own_min p2 p3)), .val (.int (own_max p2 p3)), .val (.ref b102), .val (.int (own_in (own_min p0 p1) (own_min p2 p3) (own_max p0 p1) (own_max p2 p3) p4 p5)), .unset, .unset, .unset, .unset] [(.int (own_cl p4 (own_min p0 p1) (own_max p0 p1)))]))) (fun t kt => st113 t kt) ?_
  by_cases hc71_114 : (own_cl p4 (own_min p0 p1) (own_max p0 p1)) = (0 : Int32)
  · skip
    refine own_Go.of (S' := (T113.setTop (mkF m 101 #[.val (.int p0), .val (.int p1), .val (.int p2), .val (.int p3), .val (.int p4), .val (.int p5), .val (.int (own_min p0 p1)), .val (.int (own_max p0 p1)), .val (.int (own_min p2 p3)), .val (.int (own_max p2 p3)), .val (.ref b102), .val (.int (own_in (own_min p0 p1) (own_min p2 p3) (own_max p0 p1) (own_max p2 p3) p4 p5)), .val (.int (0 : Int32)), .unset, .unset, .unset] [(.double (FP.i2d (own_min p2 p3))), (.double (FP.i2d (own_min p0 p1))), (.ref b102)]))) (fun t kt => ?_) ?_
    · show Steps p.tables e below (T113.setTop (mkF m 71 #[.val (.int p0), .val (.int p1), .val (.int p2), .val (.int p3), .val (.int p4), .val (.int p5), .val (.int (own_min p0 p1)), .val (.int (own_max p0 p1)), .val (.int (own_min p2 p3)), .val (.int (own_max p2 p3)), .val (.ref b102), .val (.int (own_in (own_min p0 p1) (own_min p2 p3) (own_max p0 p1) (own_max p2 p3) p4 p5)), .unset, .unset, .unset, .unset] [(.int (own_cl p4 (own_min p0 p1) (own_max p0 p1)))])) _
      refine XS.ifYes X113.here hx rfl (pc0 := 71) (pc' := 90) rfl (own_hb hby at_71) rfl ((if0 _ _).trans (teq hc71_114).1) (by decide) (by decide) ?_
      show Steps p.tables e below (T113.setTop (mkF m 90 #[.val (.int p0), .val (.int p1), .val (.int p2), .val (.int p3), .val (.int p4), .val (.int p5), .val (.int (own_min p0 p1)), .val (.int (own_max p0 p1)), .val (.int (own_min p2 p3)), .val (.int (own_max p2 p3)), .val (.ref b102), .val (.int (own_in (own_min p0 p1) (own_min p2 p3) (own_max p0 p1) (own_max p2 p3) p4 p5)), .unset, .unset, .unset, .unset] [])) _
      refine XS.iconst X113.here hx rfl (own_hb hby at_90) ?_
      show Steps p.tables e below (T113.setTop (mkF m 91 #[.val (.int p0), .val (.int p1), .val (.int p2), .val (.int p3), .val (.int p4), .val (.int p5), .val (.int (own_min p0 p1)), .val (.int (own_max p0 p1)), .val (.int (own_min p2 p3)), .val (.int (own_max p2 p3)), .val (.ref b102), .val (.int (own_in (own_min p0 p1) (own_min p2 p3) (own_max p0 p1) (own_max p2 p3) p4 p5)), .unset, .unset, .unset, .unset] [(.int (0 : Int32))])) _
      refine XS.istore X113.here hx rfl (own_hb hby at_91) rfl (l' := #[.val (.int p0), .val (.int p1), .val (.int p2), .val (.int p3), .val (.int p4), .val (.int p5), .val (.int (own_min p0 p1)), .val (.int (own_max p0 p1)), .val (.int (own_min p2 p3)), .val (.int (own_max p2 p3)), .val (.ref b102), .val (.int (own_in (own_min p0 p1) (own_min p2 p3) (own_max p0 p1) (own_max p2 p3) p4 p5)), .val (.int (0 : Int32)), .unset, .unset, .unset]) rfl ?_
      show Steps p.tables e below (T113.setTop (mkF m 93 #[.val (.int p0), .val (.int p1), .val (.int p2), .val (.int p3), .val (.int p4), .val (.int p5), .val (.int (own_min p0 p1)), .val (.int (own_max p0 p1)), .val (.int (own_min p2 p3)), .val (.int (own_max p2 p3)), .val (.ref b102), .val (.int (own_in (own_min p0 p1) (own_min p2 p3) (own_max p0 p1) (own_max p2 p3) p4 p5)), .val (.int (0 : Int32)), .unset, .unset, .unset] [])) _
      refine XS.aload X113.here hx rfl (own_hb hby at_93) rfl rfl ?_
      show Steps p.tables e below (T113.setTop (mkF m 95 #[.val (.int p0), .val (.int p1), .val (.int p2), .val (.int p3), .val (.int p4), .val (.int p5), .val (.int (own_min p0 p1)), .val (.int (own_max p0 p1)), .val (.int (own_min p2 p3)), .val (.int (own_max p2 p3)), .val (.ref b102), .val (.int (own_in (own_min p0 p1) (own_min p2 p3) (own_max p0 p1) (own_max p2 p3) p4 p5)), .val (.int (0 : Int32)), .unset, .unset, .unset] [(.ref b102)])) _
      refine XS.iload X113.here hx rfl (own_hb hby at_95) rfl ?_
      show Steps p.tables e below (T113.setTop (mkF m 97 #[.val (.int p0), .val (.int p1), .val (.int p2), .val (.int p3), .val (.int p4), .val (.int p5), .val (.int (own_min p0 p1)), .val (.int (own_max p0 p1)), .val (.int (own_min p2 p3)), .val (.int (own_max p2 p3)), .val (.ref b102), .val (.int (own_in (own_min p0 p1) (own_min p2 p3) (own_max p0 p1) (own_max p2 p3) p4 p5)), .val (.int (0 : Int32)), .unset, .unset, .unset] [(.int (own_min p0 p1)), (.ref b102)])) _
      refine own_i2d X113.here hx rfl (own_hb hby at_97) rfl ?_
      show Steps p.tables e below (T113.setTop (mkF m 98 #[.val (.int p0), .val (.int p1), .val (.int p2), .val (.int p3), .val (.int p4), .val (.int p5), .val (.int (own_min p0 p1)), .val (.int (own_max p0 p1)), .val (.int (own_min p2 p3)), .val (.int (own_max p2 p3)), .val (.ref b102), .val (.int (own_in (own_min p0 p1) (own_min p2 p3) (own_max p0 p1) (own_max p2 p3) p4 p5)), .val (.int (0 : Int32)), .unset, .unset, .unset] [(.double (FP.i2d (own_min p0 p1))), (.ref b102)])) _
      refine XS.iload X113.here hx rfl (own_hb hby at_98) rfl ?_
      show Steps p.tables e below (T113.setTop (mkF m 100 #[.val (.int p0), .val (.int p1), .val (.int p2), .val (.int p3), .val (.int p4), .val (.int p5), .val (.int (own_min p0 p1)), .val (.int (own_max p0 p1)), .val (.int (own_min p2 p3)), .val (.int (own_max p2 p3)), .val (.ref b102), .val (.int (own_in (own_min p0 p1) (own_min p2 p3) (own_max p0 p1) (own_max p2 p3) p4 p5)), .val (.int (0 : Int32)), .unset, .unset, .unset] [(.int (own_min p2 p3)), (.double (FP.i2d (own_min p0 p1))), (.ref b102)])) _
      refine own_i2d X113.here hx rfl (own_hb hby at_100) rfl ?_
      exact kt
    obtain ⟨cq115, kq115, q115a, q115b, q115c⟩ := isOf hZ hh113 p109_0
    obtain ⟨_, _, ⟨T115, L115, k115, n115⟩, -, X115, ⟨Lc115, hQ115, l115, y115, z115⟩, st115⟩ := X113.virtualBack hx (y := (⟨"com/example/sagasu/sagasu/Extent", "contains", "(DD)Z"⟩ : MethodName)) (z := (⟨"com/example/sagasu/sagasu/Extent", "contains", "(DD)Z"⟩ : MethodName)) hown (mvT hZ (hw _ (List.mem_of_getElem? (i := 47) rfl))) (mvT hZ (hw _ (List.mem_of_getElem? (i := 48) rfl))) (notFace_of_selects (args := #[]) (mvT hZ (hw _ (List.mem_of_getElem? (i := 50) rfl)))) (mvT hZ (hw _ (List.mem_of_getElem? (i := 50) rfl))) (mvT hZ (hw _ (List.mem_of_getElem? (i := 49) rfl))) (by decide) (backOf (W := 0) (rm8 l Z a0 hw [] b102 (own_min p0 p1) (own_min p2 p3) (own_min p0 p1) (own_min p2 p3) (own_max p0 p1) (own_max p2 p3) T109.heap n0 z111 p109_1 p109_2 p109_3 p109_4) hZ (hw _ (List.mem_of_getElem? (i := 51) rfl)) (hw _ (List.mem_of_getElem? (i := 9) rfl)) (by decide) (by decide)) q115a q115c (g := (mkF m 101 #[.val (.int p0), .val (.int p1), .val (.int p2), .val (.int p3), .val (.int p4), .val (.int p5), .val (.int (own_min p0 p1)), .val (.int (own_max p0 p1)), .val (.int (own_min p2 p3)), .val (.int (own_max p2 p3)), .val (.ref b102), .val (.int (own_in (own_min p0 p1) (own_min p2 p3) (own_max p0 p1) (own_max p2 p3) p4 p5)), .val (.int (0 : Int32)), .unset, .unset, .unset] [(.double (FP.i2d (own_min p2 p3))), (.double (FP.i2d (own_min p0 p1))), (.ref b102)])) rfl (by rw [hml]; rfl) (Steps.refl _) (argsL := [(.double (FP.i2d (own_min p0 p1))), (.double (FP.i2d (own_min p2 p3)))]) (rest := []) (lenOf pd_4 rfl) rfl (by show 2 * 0 + _ ≤ _; exact Nat.le_of_eq rfl) (own_hb hby at_101) (fun _ _ => ⟨rfl, hh113, (by decide : 9 + 0 ≤ _), (by decide : 164 + 0 ≤ _)⟩)
    dsimp only [Pt.U, Pt.locs, Pt.cells, Pt.slots] at X115 l115 y115 z115 st115 hQ115
    subst l115 y115 z115
    obtain ⟨rfl, N115q, hh115⟩ := hQ115
    have N115 := Fr.app N113 N115q
    refine own_Go.of (S' := (T115.setTop (mkF m 104 #[.val (.int p0), .val (.int p1), .val (.int p2), .val (.int p3), .val (.int p4), .val (.int p5), .val (.int (own_min p0 p1)), .val (.int (own_max p0 p1)), .val (.int (own_min p2 p3)), .val (.int (own_max p2 p3)), .val (.ref b102), .val (.int (own_in (own_min p0 p1) (own_min p2 p3) (own_max p0 p1) (own_max p2 p3) p4 p5)), .val (.int (0 : Int32)), .unset, .unset, .unset] [(.int (own_in (own_min p0 p1) (own_min p2 p3) (own_max p0 p1) (own_max p2 p3) (own_min p0 p1) (own_min p2 p3)))]))) (fun t kt => st115.trans kt) ?_
    refine own_Go.of (S' := (T115.setTop (mkF m 114 #[.val (.int p0), .val (.int p1), .val (.int p2), .val (.int p3), .val (.int p4), .val (.int p5), .val (.int (own_min p0 p1)), .val (.int (own_max p0 p1)), .val (.int (own_min p2 p3)), .val (.int (own_max p2 p3)), .val (.ref b102), .val (.int (own_in (own_min p0 p1) (own_min p2 p3) (own_max p0 p1) (own_max p2 p3) p4 p5)), .val (.int (0 : Int32)), .val (.int (own_in (own_min p0 p1) (own_min p2 p3) (own_max p0 p1) (own_max p2 p3) (own_min p0 p1) (own_min p2 p3))), .unset, .unset] [(.double (FP.i2d (own_max p2 p3))), (.double (FP.i2d (own_max p0 p1))), (.ref b102)]))) (fun t kt => ?_) ?_
    · show Steps p.tables e below (T115.setTop (mkF m 104 #[.val (.int p0), .val (.int p1), .val (.int p2), .val (.int p3), .val (.int p4), .val (.int p5), .val (.int (own_min p0 p1)), .val (.int (own_max p0 p1)), .val (.int (own_min p2 p3)), .val (.int (own_max p2 p3)), .val (.ref b102), .val (.int (own_in (own_min p0 p1) (own_min p2 p3) (own_max p0 p1) (own_max p2 p3) p4 p5)), .val (.int (0 : Int32)), .unset, .unset, .unset] [(.int (own_in (own_min p0 p1) (own_min p2 p3) (own_max p0 p1) (own_max p2 p3) (own_min p0 p1) (own_min p2 p3)))])) _
      refine XS.istore X115.here hx rfl (own_hb hby at_104) rfl (l' := #[.val (.int p0), .val (.int p1), .val (.int p2), .val (.int p3), .val (.int p4), .val (.int p5), .val (.int (own_min p0 p1)), .val (.int (own_max p0 p1)), .val (.int (own_min p2 p3)), .val (.int (own_max p2 p3)), .val (.ref b102), .val (.int (own_in (own_min p0 p1) (own_min p2 p3) (own_max p0 p1) (own_max p2 p3) p4 p5)), .val (.int (0 : Int32)), .val (.int (own_in (own_min p0 p1) (own_min p2 p3) (own_max p0 p1) (own_max p2 p3) (own_min p0 p1) (own_min p2 p3))), .unset, .unset]) rfl ?_
      show Steps p.tables e below (T115.setTop (mkF m 106 #[.val (.int p0), .val (.int p1), .val (.int p2), .val (.int p3), .val (.int p4), .val (.int p5), .val (.int (own_min p0 p1)), .val (.int (own_max p0 p1)), .val (.int (own_min p2 p3)), .val (.int (own_max p2 p3)), .val (.ref b102), .val (.int (own_in (own_min p0 p1) (own_min p2 p3) (own_max p0 p1) (own_max p2 p3) p4 p5)), .val (.int (0 : Int32)), .val (.int (own_in (own_min p0 p1) (own_min p2 p3) (own_max p0 p1) (own_max p2 p3) (own_min p0 p1) (own_min p2 p3))), .unset, .unset] [])) _
      refine XS.aload X115.here hx rfl (own_hb hby at_106) rfl rfl ?_
      show Steps p.tables e below (T115.setTop (mkF m 108 #[.val (.int p0), .val (.int p1), .val (.int p2), .val (.int p3), .val (.int p4), .val (.int p5), .val (.int (own_min p0 p1)), .val (.int (own_max p0 p1)), .val (.int (own_min p2 p3)), .val (.int (own_max p2 p3)), .val (.ref b102), .val (.int (own_in (own_min p0 p1) (own_min p2 p3) (own_max p0 p1) (own_max p2 p3) p4 p5)), .val (.int (0 : Int32)), .val (.int (own_in (own_min p0 p1) (own_min p2 p3) (own_max p0 p1) (own_max p2 p3) (own_min p0 p1) (own_min p2 p3))), .unset, .unset] [(.ref b102)])) _
      refine XS.iload X115.here hx rfl (own_hb hby at_108) rfl ?_
      show Steps p.tables e below (T115.setTop (mkF m 110 #[.val (.int p0), .val (.int p1), .val (.int p2), .val (.int p3), .val (.int p4), .val (.int p5), .val (.int (own_min p0 p1)), .val (.int (own_max p0 p1)), .val (.int (own_min p2 p3)), .val (.int (own_max p2 p3)), .val (.ref b102), .val (.int (own_in (own_min p0 p1) (own_min p2 p3) (own_max p0 p1) (own_max p2 p3) p4 p5)), .val (.int (0 : Int32)), .val (.int (own_in (own_min p0 p1) (own_min p2 p3) (own_max p0 p1) (own_max p2 p3) (own_min p0 p1) (own_min p2 p3))), .unset, .unset] [(.int (own_max p0 p1)), (.ref b102)])) _
      refine own_i2d X115.here hx rfl (own_hb hby at_110) rfl ?_
      show Steps p.tables e below (T115.setTop (mkF m 111 #[.val (.int p0), .val (.int p1), .val (.int p2), .val (.int p3), .val (.int p4), .val (.int p5), .val (.int (own_min p0 p1)), .val (.int (own_max p0 p1)), .val (.int (own_min p2 p3)), .val (.int (own_max p2 p3)), .val (.ref b102), .val (.int (own_in (own_min p0 p1) (own_min p2 p3) (own_max p0 p1) (own_max p2 p3) p4 p5)), .val (.int (0 : Int32)), .val (.int (own_in (own_min p0 p1) (own_min p2 p3) (own_max p0 p1) (own_max p2 p3) (own_min p0 p1) (own_min p2 p3))), .unset, .unset] [(.double (FP.i2d (own_max p0 p1))), (.ref b102)])) _
      refine XS.iload X115.here hx rfl (own_hb hby at_111) rfl ?_
      show Steps p.tables e below (T115.setTop (mkF m 113 #[.val (.int p0), .val (.int p1), .val (.int p2), .val (.int p3), .val (.int p4), .val (.int p5), .val (.int (own_min p0 p1)), .val (.int (own_max p0 p1)), .val (.int (own_min p2 p3)), .val (.int (own_max p2 p3)), .val (.ref b102), .val (.int (own_in (own_min p0 p1) (own_min p2 p3) (own_max p0 p1) (own_max p2 p3) p4 p5)), .val (.int (0 : Int32)), .val (.int (own_in (own_min p0 p1) (own_min p2 p3) (own_max p0 p1) (own_max p2 p3) (own_min p0 p1) (own_min p2 p3))), .unset, .unset] [(.int (own_max p2 p3)), (.double (FP.i2d (own_max p0 p1))), (.ref b102)])) _
      refine own_i2d X115.here hx rfl (own_hb hby at_113) rfl ?_
      exact kt
    obtain ⟨cq116, kq116, q116a, q116b, q116c⟩ := isOf hZ hh115 p109_0
    obtain ⟨_, _, ⟨T116, L116, k116, n116⟩, -, X116, ⟨Lc116, hQ116, l116, y116, z116⟩, st116⟩ := X115.virtualBack hx (y := (⟨"com/example/sagasu/sagasu/Extent", "contains", "(DD)Z"⟩ : MethodName)) (z := (⟨"com/example/sagasu/sagasu/Extent", "contains", "(DD)Z"⟩ : MethodName)) hown (mvT hZ (hw _ (List.mem_of_getElem? (i := 47) rfl))) (mvT hZ (hw _ (List.mem_of_getElem? (i := 48) rfl))) (notFace_of_selects (args := #[]) (mvT hZ (hw _ (List.mem_of_getElem? (i := 50) rfl)))) (mvT hZ (hw _ (List.mem_of_getElem? (i := 50) rfl))) (mvT hZ (hw _ (List.mem_of_getElem? (i := 49) rfl))) (by decide) (backOf (W := 0) (rm8 l Z a0 hw [] b102 (own_max p0 p1) (own_max p2 p3) (own_min p0 p1) (own_min p2 p3) (own_max p0 p1) (own_max p2 p3) T109.heap n0 z111 p109_1 p109_2 p109_3 p109_4) hZ (hw _ (List.mem_of_getElem? (i := 51) rfl)) (hw _ (List.mem_of_getElem? (i := 9) rfl)) (by decide) (by decide)) q116a q116c (g := (mkF m 114 #[.val (.int p0), .val (.int p1), .val (.int p2), .val (.int p3), .val (.int p4), .val (.int p5), .val (.int (own_min p0 p1)), .val (.int (own_max p0 p1)), .val (.int (own_min p2 p3)), .val (.int (own_max p2 p3)), .val (.ref b102), .val (.int (own_in (own_min p0 p1) (own_min p2 p3) (own_max p0 p1) (own_max p2 p3) p4 p5)), .val (.int (0 : Int32)), .val (.int (own_in (own_min p0 p1) (own_min p2 p3) (own_max p0 p1) (own_max p2 p3) (own_min p0 p1) (own_min p2 p3))), .unset, .unset] [(.double (FP.i2d (own_max p2 p3))), (.double (FP.i2d (own_max p0 p1))), (.ref b102)])) rfl (by rw [hml]; rfl) (Steps.refl _) (argsL := [(.double (FP.i2d (own_max p0 p1))), (.double (FP.i2d (own_max p2 p3)))]) (rest := []) (lenOf pd_4 rfl) rfl (by show 2 * 0 + _ ≤ _; exact Nat.le_of_eq rfl) (own_hb hby at_114) (fun _ _ => ⟨rfl, hh115, (by decide : 9 + 0 ≤ _), (by decide : 164 + 0 ≤ _)⟩)
    dsimp only [Pt.U, Pt.locs, Pt.cells, Pt.slots] at X116 l116 y116 z116 st116 hQ116
    subst l116 y116 z116
    obtain ⟨rfl, N116q, hh116⟩ := hQ116
    have N116 := Fr.app N115 N116q
    refine own_Go.of (S' := (T116.setTop (mkF m 117 #[.val (.int p0), .val (.int p1), .val (.int p2), .val (.int p3), .val (.int p4), .val (.int p5), .val (.int (own_min p0 p1)), .val (.int (own_max p0 p1)), .val (.int (own_min p2 p3)), .val (.int (own_max p2 p3)), .val (.ref b102), .val (.int (own_in (own_min p0 p1) (own_min p2 p3) (own_max p0 p1) (own_max p2 p3) p4 p5)), .val (.int (0 : Int32)), .val (.int (own_in (own_min p0 p1) (own_min p2 p3) (own_max p0 p1) (own_max p2 p3) (own_min p0 p1) (own_min p2 p3))), .unset, .unset] [(.int (own_in (own_min p0 p1) (own_min p2 p3) (own_max p0 p1) (own_max p2 p3) (own_max p0 p1) (own_max p2 p3)))]))) (fun t kt => st116.trans kt) ?_
    refine own_Go.of (S' := (T116.setTop (mkF m 127 #[.val (.int p0), .val (.int p1), .val (.int p2), .val (.int p3), .val (.int p4), .val (.int p5), .val (.int (own_min p0 p1)), .val (.int (own_max p0 p1)), .val (.int (own_min p2 p3)), .val (.int (own_max p2 p3)), .val (.ref b102), .val (.int (own_in (own_min p0 p1) (own_min p2 p3) (own_max p0 p1) (own_max p2 p3) p4 p5)), .val (.int (0 : Int32)), .val (.int (own_in (own_min p0 p1) (own_min p2 p3) (own_max p0 p1) (own_max p2 p3) (own_min p0 p1) (own_min p2 p3))), .val (.int (own_in (own_min p0 p1) (own_min p2 p3) (own_max p0 p1) (own_max p2 p3) (own_max p0 p1) (own_max p2 p3))), .unset] [(.double (FP.i2d (own_max p2 p3))), (.double (FP.i2d (own_min p0 p1))), (.ref b102)]))) (fun t kt => ?_) ?_
    · show Steps p.tables e below (T116.setTop (mkF m 117 #[.val (.int p0), .val (.int p1), .val (.int p2), .val (.int p3), .val (.int p4), .val (.int p5), .val (.int (own_min p0 p1)), .val (.int (own_max p0 p1)), .val (.int (own_min p2 p3)), .val (.int (own_max p2 p3)), .val (.ref b102), .val (.int (own_in (own_min p0 p1) (own_min p2 p3) (own_max p0 p1) (own_max p2 p3) p4 p5)), .val (.int (0 : Int32)), .val (.int (own_in (own_min p0 p1) (own_min p2 p3) (own_max p0 p1) (own_max p2 p3) (own_min p0 p1) (own_min p2 p3))), .unset, .unset] [(.int (own_in (own_min p0 p1) (own_min p2 p3) (own_max p0 p1) (own_max p2 p3) (own_max p0 p1) (own_max p2 p3)))])) _
      refine XS.istore X116.here hx rfl (own_hb hby at_117) rfl (l' := #[.val (.int p0), .val (.int p1), .val (.int p2), .val (.int p3), .val (.int p4), .val (.int p5), .val (.int (own_min p0 p1)), .val (.int (own_max p0 p1)), .val (.int (own_min p2 p3)), .val (.int (own_max p2 p3)), .val (.ref b102), .val (.int (own_in (own_min p0 p1) (own_min p2 p3) (own_max p0 p1) (own_max p2 p3) p4 p5)), .val (.int (0 : Int32)), .val (.int (own_in (own_min p0 p1) (own_min p2 p3) (own_max p0 p1) (own_max p2 p3) (own_min p0 p1) (own_min p2 p3))), .val (.int (own_in (own_min p0 p1) (own_min p2 p3) (own_max p0 p1) (own_max p2 p3) (own_max p0 p1) (own_max p2 p3))), .unset]) rfl ?_
      show Steps p.tables e below (T116.setTop (mkF m 119 #[.val (.int p0), .val (.int p1), .val (.int p2), .val (.int p3), .val (.int p4), .val (.int p5), .val (.int (own_min p0 p1)), .val (.int (own_max p0 p1)), .val (.int (own_min p2 p3)), .val (.int (own_max p2 p3)), .val (.ref b102), .val (.int (own_in (own_min p0 p1) (own_min p2 p3) (own_max p0 p1) (own_max p2 p3) p4 p5)), .val (.int (0 : Int32)), .val (.int (own_in (own_min p0 p1) (own_min p2 p3) (own_max p0 p1) (own_max p2 p3) (own_min p0 p1) (own_min p2 p3))), .val (.int (own_in (own_min p0 p1) (own_min p2 p3) (own_max p0 p1) (own_max p2 p3) (own_max p0 p1) (own_max p2 p3))), .unset] [])) _
      refine XS.aload X116.here hx rfl (own_hb hby at_119) rfl rfl ?_
      show Steps p.tables e below (T116.setTop (mkF m 121 #[.val (.int p0), .val (.int p1), .val (.int p2), .val (.int p3), .val (.int p4), .val (.int p5), .val (.int (own_min p0 p1)), .val (.int (own_max p0 p1)), .val (.int (own_min p2 p3)), .val (.int (own_max p2 p3)), .val (.ref b102), .val (.int (own_in (own_min p0 p1) (own_min p2 p3) (own_max p0 p1) (own_max p2 p3) p4 p5)), .val (.int (0 : Int32)), .val (.int (own_in (own_min p0 p1) (own_min p2 p3) (own_max p0 p1) (own_max p2 p3) (own_min p0 p1) (own_min p2 p3))), .val (.int (own_in (own_min p0 p1) (own_min p2 p3) (own_max p0 p1) (own_max p2 p3) (own_max p0 p1) (own_max p2 p3))), .unset] [(.ref b102)])) _
      refine XS.iload X116.here hx rfl (own_hb hby at_121) rfl ?_
      show Steps p.tables e below (T116.setTop (mkF m 123 #[.val (.int p0), .val (.int p1), .val (.int p2), .val (.int p3), .val (.int p4), .val (.int p5), .val (.int (own_min p0 p1)), .val (.int (own_max p0 p1)), .val (.int (own_min p2 p3)), .val (.int (own_max p2 p3)), .val (.ref b102), .val (.int (own_in (own_min p0 p1) (own_min p2 p3) (own_max p0 p1) (own_max p2 p3) p4 p5)), .val (.int (0 : Int32)), .val (.int (own_in (own_min p0 p1) (own_min p2 p3) (own_max p0 p1) (own_max p2 p3) (own_min p0 p1) (own_min p2 p3))), .val (.int (own_in (own_min p0 p1) (own_min p2 p3) (own_max p0 p1) (own_max p2 p3) (own_max p0 p1) (own_max p2 p3))), .unset] [(.int (own_min p0 p1)), (.ref b102)])) _
      refine own_i2d X116.here hx rfl (own_hb hby at_123) rfl ?_
      show Steps p.tables e below (T116.setTop (mkF m 124 #[.val (.int p0), .val (.int p1), .val (.int p2), .val (.int p3), .val (.int p4), .val (.int p5), .val (.int (own_min p0 p1)), .val (.int (own_max p0 p1)), .val (.int (own_min p2 p3)), .val (.int (own_max p2 p3)), .val (.ref b102), .val (.int (own_in (own_min p0 p1) (own_min p2 p3) (own_max p0 p1) (own_max p2 p3) p4 p5)), .val (.int (0 : Int32)), .val (.int (own_in (own_min p0 p1) (own_min p2 p3) (own_max p0 p1) (own_max p2 p3) (own_min p0 p1) (own_min p2 p3))), .val (.int (own_in (own_min p0 p1) (own_min p2 p3) (own_max p0 p1) (own_max p2 p3) (own_max p0 p1) (own_max p2 p3))), .unset] [(.double (FP.i2d (own_min p0 p1))), (.ref b102)])) _
      refine XS.iload X116.here hx rfl (own_hb hby at_124) rfl ?_
      show Steps p.tables e below (T116.setTop (mkF m 126 #[.val (.int p0), .val (.int p1), .val (.int p2), .val (.int p3), .val (.int p4), .val (.int p5), .val (.int (own_min p0 p1)), .val (.int (own_max p0 p1)), .val (.int (own_min p2 p3)), .val (.int (own_max p2 p3)), .val (.ref b102), .val (.int (own_in (own_min p0 p1) (own_min p2 p3) (own_max p0 p1) (own_max p2 p3) p4 p5)), .val (.int (0 : Int32)), .val (.int (own_in (own_min p0 p1) (own_min p2 p3) (own_max p0 p1) (own_max p2 p3) (own_min p0 p1) (own_min p2 p3))), .val (.int (own_in (own_min p0 p1) (own_min p2 p3) (own_max p0 p1) (own_max p2 p3) (own_max p0 p1) (own_max p2 p3))), .unset] [(.int (own_max p2 p3)), (.double (FP.i2d (own_min p0 p1))), (.ref b102)])) _
      refine own_i2d X116.here hx rfl (own_hb hby at_126) rfl ?_
      exact kt
    obtain ⟨cq117, kq117, q117a, q117b, q117c⟩ := isOf hZ hh116 p109_0
    obtain ⟨_, _, ⟨T117, L117, k117, n117⟩, -, X117, ⟨Lc117, hQ117, l117, y117, z117⟩, st117⟩ := X116.virtualBack hx (y := (⟨"com/example/sagasu/sagasu/Extent", "contains", "(DD)Z"⟩ : MethodName)) (z := (⟨"com/example/sagasu/sagasu/Extent", "contains", "(DD)Z"⟩ : MethodName)) hown (mvT hZ (hw _ (List.mem_of_getElem? (i := 47) rfl))) (mvT hZ (hw _ (List.mem_of_getElem? (i := 48) rfl))) (notFace_of_selects (args := #[]) (mvT hZ (hw _ (List.mem_of_getElem? (i := 50) rfl)))) (mvT hZ (hw _ (List.mem_of_getElem? (i := 50) rfl))) (mvT hZ (hw _ (List.mem_of_getElem? (i := 49) rfl))) (by decide) (backOf (W := 0) (rm8 l Z a0 hw [] b102 (own_min p0 p1) (own_max p2 p3) (own_min p0 p1) (own_min p2 p3) (own_max p0 p1) (own_max p2 p3) T109.heap n0 z111 p109_1 p109_2 p109_3 p109_4) hZ (hw _ (List.mem_of_getElem? (i := 51) rfl)) (hw _ (List.mem_of_getElem? (i := 9) rfl)) (by decide) (by decide)) q117a q117c (g := (mkF m 127 #[.val (.int p0), .val (.int p1), .val (.int p2), .val (.int p3), .val (.int p4), .val (.int p5), .val (.int (own_min p0 p1)), .val (.int (own_max p0 p1)), .val (.int (own_min p2 p3)), .val (.int (own_max p2 p3)), .val (.ref b102), .val (.int (own_in (own_min p0 p1) (own_min p2 p3) (own_max p0 p1) (own_max p2 p3) p4 p5)), .val (.int (0 : Int32)), .val (.int (own_in (own_min p0 p1) (own_min p2 p3) (own_max p0 p1) (own_max p2 p3) (own_min p0 p1) (own_min p2 p3))), .val (.int (own_in (own_min p0 p1) (own_min p2 p3) (own_max p0 p1) (own_max p2 p3) (own_max p0 p1) (own_max p2 p3))), .unset] [(.double (FP.i2d (own_max p2 p3))), (.double (FP.i2d (own_min p0 p1))), (.ref b102)])) rfl (by rw [hml]; rfl) (Steps.refl _) (argsL := [(.double (FP.i2d (own_min p0 p1))), (.double (FP.i2d (own_max p2 p3)))]) (rest := []) (lenOf pd_4 rfl) rfl (by show 2 * 0 + _ ≤ _; exact Nat.le_of_eq rfl) (own_hb hby at_127) (fun _ _ => ⟨rfl, hh116, (by decide : 9 + 0 ≤ _), (by decide : 164 + 0 ≤ _)⟩)
    dsimp only [Pt.U, Pt.locs, Pt.cells, Pt.slots] at X117 l117 y117 z117 st117 hQ117
    subst l117 y117 z117
    obtain ⟨rfl, N117q, hh117⟩ := hQ117
    have N117 := Fr.app N116 N117q
    refine own_Go.of (S' := (T117.setTop (mkF m 130 #[.val (.int p0), .val (.int p1), .val (.int p2), .val (.int p3), .val (.int p4), .val (.int p5), .val (.int (own_min p0 p1)), .val (.int (own_max p0 p1)), .val (.int (own_min p2 p3)), .val (.int (own_max p2 p3)), .val (.ref b102), .val (.int (own_in (own_min p0 p1) (own_min p2 p3) (own_max p0 p1) (own_max p2 p3) p4 p5)), .val (.int (0 : Int32)), .val (.int (own_in (own_min p0 p1) (own_min p2 p3) (own_max p0 p1) (own_max p2 p3) (own_min p0 p1) (own_min p2 p3))), .val (.int (own_in (own_min p0 p1) (own_min p2 p3) (own_max p0 p1) (own_max p2 p3) (own_max p0 p1) (own_max p2 p3))), .unset] [(.int (own_in (own_min p0 p1) (own_min p2 p3) (own_max p0 p1) (own_max p2 p3) (own_min p0 p1) (own_max p2 p3)))]))) (fun t kt => st117.trans kt) ?_
    refine own_Go.of (S' := (T117.setTop (mkF m 159 #[.val (.int p0), .val (.int p1), .val (.int p2), .val (.int p3), .val (.int p4), .val (.int p5), .val (.int (own_min p0 p1)), .val (.int (own_max p0 p1)), .val (.int (own_min p2 p3)), .val (.int (own_max p2 p3)), .val (.ref b102), .val (.int (own_in (own_min p0 p1) (own_min p2 p3) (own_max p0 p1) (own_max p2 p3) p4 p5)), .val (.int (0 : Int32)), .val (.int (own_in (own_min p0 p1) (own_min p2 p3) (own_max p0 p1) (own_max p2 p3) (own_min p0 p1) (own_min p2 p3))), .val (.int (own_in (own_min p0 p1) (own_min p2 p3) (own_max p0 p1) (own_max p2 p3) (own_max p0 p1) (own_max p2 p3))), .val (.int (own_in (own_min p0 p1) (own_min p2 p3) (own_max p0 p1) (own_max p2 p3) (own_min p0 p1) (own_max p2 p3)))] [(.int (1 : Int32))]))) (fun t kt => ?_) ?_
    · show Steps p.tables e below (T117.setTop (mkF m 130 #[.val (.int p0), .val (.int p1), .val (.int p2), .val (.int p3), .val (.int p4), .val (.int p5), .val (.int (own_min p0 p1)), .val (.int (own_max p0 p1)), .val (.int (own_min p2 p3)), .val (.int (own_max p2 p3)), .val (.ref b102), .val (.int (own_in (own_min p0 p1) (own_min p2 p3) (own_max p0 p1) (own_max p2 p3) p4 p5)), .val (.int (0 : Int32)), .val (.int (own_in (own_min p0 p1) (own_min p2 p3) (own_max p0 p1) (own_max p2 p3) (own_min p0 p1) (own_min p2 p3))), .val (.int (own_in (own_min p0 p1) (own_min p2 p3) (own_max p0 p1) (own_max p2 p3) (own_max p0 p1) (own_max p2 p3))), .unset] [(.int (own_in (own_min p0 p1) (own_min p2 p3) (own_max p0 p1) (own_max p2 p3) (own_min p0 p1) (own_max p2 p3)))])) _
      refine XS.istore X117.here hx rfl (own_hb hby at_130) rfl (l' := #[.val (.int p0), .val (.int p1), .val (.int p2), .val (.int p3), .val (.int p4), .val (.int p5), .val (.int (own_min p0 p1)), .val (.int (own_max p0 p1)), .val (.int (own_min p2 p3)), .val (.int (own_max p2 p3)), .val (.ref b102), .val (.int (own_in (own_min p0 p1) (own_min p2 p3) (own_max p0 p1) (own_max p2 p3) p4 p5)), .val (.int (0 : Int32)), .val (.int (own_in (own_min p0 p1) (own_min p2 p3) (own_max p0 p1) (own_max p2 p3) (own_min p0 p1) (own_min p2 p3))), .val (.int (own_in (own_min p0 p1) (own_min p2 p3) (own_max p0 p1) (own_max p2 p3) (own_max p0 p1) (own_max p2 p3))), .val (.int (own_in (own_min p0 p1) (own_min p2 p3) (own_max p0 p1) (own_max p2 p3) (own_min p0 p1) (own_max p2 p3)))]) rfl ?_
      show Steps p.tables e below (T117.setTop (mkF m 132 #[.val (.int p0), .val (.int p1), .val (.int p2), .val (.int p3), .val (.int p4), .val (.int p5), .val (.int (own_min p0 p1)), .val (.int (own_max p0 p1)), .val (.int (own_min p2 p3)), .val (.int (own_max p2 p3)), .val (.ref b102), .val (.int (own_in (own_min p0 p1) (own_min p2 p3) (own_max p0 p1) (own_max p2 p3) p4 p5)), .val (.int (0 : Int32)), .val (.int (own_in (own_min p0 p1) (own_min p2 p3) (own_max p0 p1) (own_max p2 p3) (own_min p0 p1) (own_min p2 p3))), .val (.int (own_in (own_min p0 p1) (own_min p2 p3) (own_max p0 p1) (own_max p2 p3) (own_max p0 p1) (own_max p2 p3))), .val (.int (own_in (own_min p0 p1) (own_min p2 p3) (own_max p0 p1) (own_max p2 p3) (own_min p0 p1) (own_max p2 p3)))] [])) _
      refine XS.iload X117.here hx rfl (own_hb hby at_132) rfl ?_
      show Steps p.tables e below (T117.setTop (mkF m 134 #[.val (.int p0), .val (.int p1), .val (.int p2), .val (.int p3), .val (.int p4), .val (.int p5), .val (.int (own_min p0 p1)), .val (.int (own_max p0 p1)), .val (.int (own_min p2 p3)), .val (.int (own_max p2 p3)), .val (.ref b102), .val (.int (own_in (own_min p0 p1) (own_min p2 p3) (own_max p0 p1) (own_max p2 p3) p4 p5)), .val (.int (0 : Int32)), .val (.int (own_in (own_min p0 p1) (own_min p2 p3) (own_max p0 p1) (own_max p2 p3) (own_min p0 p1) (own_min p2 p3))), .val (.int (own_in (own_min p0 p1) (own_min p2 p3) (own_max p0 p1) (own_max p2 p3) (own_max p0 p1) (own_max p2 p3))), .val (.int (own_in (own_min p0 p1) (own_min p2 p3) (own_max p0 p1) (own_max p2 p3) (own_min p0 p1) (own_max p2 p3)))] [(.int (own_in (own_min p0 p1) (own_min p2 p3) (own_max p0 p1) (own_max p2 p3) p4 p5))])) _
      refine XS.iload X117.here hx rfl (own_hb hby at_134) rfl ?_
      show Steps p.tables e below (T117.setTop (mkF m 136 #[.val (.int p0), .val (.int p1), .val (.int p2), .val (.int p3), .val (.int p4), .val (.int p5), .val (.int (own_min p0 p1)), .val (.int (own_max p0 p1)), .val (.int (own_min p2 p3)), .val (.int (own_max p2 p3)), .val (.ref b102), .val (.int (own_in (own_min p0 p1) (own_min p2 p3) (own_max p0 p1) (own_max p2 p3) p4 p5)), .val (.int (0 : Int32)), .val (.int (own_in (own_min p0 p1) (own_min p2 p3) (own_max p0 p1) (own_max p2 p3) (own_min p0 p1) (own_min p2 p3))), .val (.int (own_in (own_min p0 p1) (own_min p2 p3) (own_max p0 p1) (own_max p2 p3) (own_max p0 p1) (own_max p2 p3))), .val (.int (own_in (own_min p0 p1) (own_min p2 p3) (own_max p0 p1) (own_max p2 p3) (own_min p0 p1) (own_max p2 p3)))] [(.int (0 : Int32)), (.int (own_in (own_min p0 p1) (own_min p2 p3) (own_max p0 p1) (own_max p2 p3) p4 p5))])) _
      refine XS.icmpNo X117.here hx rfl (own_hb hby at_136) rfl (teq (own_f2 (own_mm p0 p1) hc71_114)).2 ?_
      show Steps p.tables e below (T117.setTop (mkF m 139 #[.val (.int p0), .val (.int p1), .val (.int p2), .val (.int p3), .val (.int p4), .val (.int p5), .val (.int (own_min p0 p1)), .val (.int (own_max p0 p1)), .val (.int (own_min p2 p3)), .val (.int (own_max p2 p3)), .val (.ref b102), .val (.int (own_in (own_min p0 p1) (own_min p2 p3) (own_max p0 p1) (own_max p2 p3) p4 p5)), .val (.int (0 : Int32)), .val (.int (own_in (own_min p0 p1) (own_min p2 p3) (own_max p0 p1) (own_max p2 p3) (own_min p0 p1) (own_min p2 p3))), .val (.int (own_in (own_min p0 p1) (own_min p2 p3) (own_max p0 p1) (own_max p2 p3) (own_max p0 p1) (own_max p2 p3))), .val (.int (own_in (own_min p0 p1) (own_min p2 p3) (own_max p0 p1) (own_max p2 p3) (own_min p0 p1) (own_max p2 p3)))] [])) _
      refine XS.iload X117.here hx rfl (own_hb hby at_139) rfl ?_
      show Steps p.tables e below (T117.setTop (mkF m 141 #[.val (.int p0), .val (.int p1), .val (.int p2), .val (.int p3), .val (.int p4), .val (.int p5), .val (.int (own_min p0 p1)), .val (.int (own_max p0 p1)), .val (.int (own_min p2 p3)), .val (.int (own_max p2 p3)), .val (.ref b102), .val (.int (own_in (own_min p0 p1) (own_min p2 p3) (own_max p0 p1) (own_max p2 p3) p4 p5)), .val (.int (0 : Int32)), .val (.int (own_in (own_min p0 p1) (own_min p2 p3) (own_max p0 p1) (own_max p2 p3) (own_min p0 p1) (own_min p2 p3))), .val (.int (own_in (own_min p0 p1) (own_min p2 p3) (own_max p0 p1) (own_max p2 p3) (own_max p0 p1) (own_max p2 p3))), .val (.int (own_in (own_min p0 p1) (own_min p2 p3) (own_max p0 p1) (own_max p2 p3) (own_min p0 p1) (own_max p2 p3)))] [(.int (own_in (own_min p0 p1) (own_min p2 p3) (own_max p0 p1) (own_max p2 p3) (own_min p0 p1) (own_min p2 p3)))])) _
      refine XS.ifNo X117.here hx rfl (own_hb hby at_141) rfl ((if0 _ _).trans (feq (own_nz (own_in_self _ _ _ _ _ _ (own_irr _) (own_mm p0 p1) (own_irr _) (own_mm p2 p3)))).1) ?_
      show Steps p.tables e below (T117.setTop (mkF m 144 #[.val (.int p0), .val (.int p1), .val (.int p2), .val (.int p3), .val (.int p4), .val (.int p5), .val (.int (own_min p0 p1)), .val (.int (own_max p0 p1)), .val (.int (own_min p2 p3)), .val (.int (own_max p2 p3)), .val (.ref b102), .val (.int (own_in (own_min p0 p1) (own_min p2 p3) (own_max p0 p1) (own_max p2 p3) p4 p5)), .val (.int (0 : Int32)), .val (.int (own_in (own_min p0 p1) (own_min p2 p3) (own_max p0 p1) (own_max p2 p3) (own_min p0 p1) (own_min p2 p3))), .val (.int (own_in (own_min p0 p1) (own_min p2 p3) (own_max p0 p1) (own_max p2 p3) (own_max p0 p1) (own_max p2 p3))), .val (.int (own_in (own_min p0 p1) (own_min p2 p3) (own_max p0 p1) (own_max p2 p3) (own_min p0 p1) (own_max p2 p3)))] [])) _
      refine XS.iload X117.here hx rfl (own_hb hby at_144) rfl ?_
      show Steps p.tables e below (T117.setTop (mkF m 146 #[.val (.int p0), .val (.int p1), .val (.int p2), .val (.int p3), .val (.int p4), .val (.int p5), .val (.int (own_min p0 p1)), .val (.int (own_max p0 p1)), .val (.int (own_min p2 p3)), .val (.int (own_max p2 p3)), .val (.ref b102), .val (.int (own_in (own_min p0 p1) (own_min p2 p3) (own_max p0 p1) (own_max p2 p3) p4 p5)), .val (.int (0 : Int32)), .val (.int (own_in (own_min p0 p1) (own_min p2 p3) (own_max p0 p1) (own_max p2 p3) (own_min p0 p1) (own_min p2 p3))), .val (.int (own_in (own_min p0 p1) (own_min p2 p3) (own_max p0 p1) (own_max p2 p3) (own_max p0 p1) (own_max p2 p3))), .val (.int (own_in (own_min p0 p1) (own_min p2 p3) (own_max p0 p1) (own_max p2 p3) (own_min p0 p1) (own_max p2 p3)))] [(.int (own_in (own_min p0 p1) (own_min p2 p3) (own_max p0 p1) (own_max p2 p3) (own_max p0 p1) (own_max p2 p3)))])) _
      refine XS.ifNo X117.here hx rfl (own_hb hby at_146) rfl ((if0 _ _).trans (feq (own_nz (own_in_self _ _ _ _ _ _ (own_mm p0 p1) (own_irr _) (own_mm p2 p3) (own_irr _)))).1) ?_
      show Steps p.tables e below (T117.setTop (mkF m 149 #[.val (.int p0), .val (.int p1), .val (.int p2), .val (.int p3), .val (.int p4), .val (.int p5), .val (.int (own_min p0 p1)), .val (.int (own_max p0 p1)), .val (.int (own_min p2 p3)), .val (.int (own_max p2 p3)), .val (.ref b102), .val (.int (own_in (own_min p0 p1) (own_min p2 p3) (own_max p0 p1) (own_max p2 p3) p4 p5)), .val (.int (0 : Int32)), .val (.int (own_in (own_min p0 p1) (own_min p2 p3) (own_max p0 p1) (own_max p2 p3) (own_min p0 p1) (own_min p2 p3))), .val (.int (own_in (own_min p0 p1) (own_min p2 p3) (own_max p0 p1) (own_max p2 p3) (own_max p0 p1) (own_max p2 p3))), .val (.int (own_in (own_min p0 p1) (own_min p2 p3) (own_max p0 p1) (own_max p2 p3) (own_min p0 p1) (own_max p2 p3)))] [])) _
      refine XS.iload X117.here hx rfl (own_hb hby at_149) rfl ?_
      show Steps p.tables e below (T117.setTop (mkF m 151 #[.val (.int p0), .val (.int p1), .val (.int p2), .val (.int p3), .val (.int p4), .val (.int p5), .val (.int (own_min p0 p1)), .val (.int (own_max p0 p1)), .val (.int (own_min p2 p3)), .val (.int (own_max p2 p3)), .val (.ref b102), .val (.int (own_in (own_min p0 p1) (own_min p2 p3) (own_max p0 p1) (own_max p2 p3) p4 p5)), .val (.int (0 : Int32)), .val (.int (own_in (own_min p0 p1) (own_min p2 p3) (own_max p0 p1) (own_max p2 p3) (own_min p0 p1) (own_min p2 p3))), .val (.int (own_in (own_min p0 p1) (own_min p2 p3) (own_max p0 p1) (own_max p2 p3) (own_max p0 p1) (own_max p2 p3))), .val (.int (own_in (own_min p0 p1) (own_min p2 p3) (own_max p0 p1) (own_max p2 p3) (own_min p0 p1) (own_max p2 p3)))] [(.int (own_in (own_min p0 p1) (own_min p2 p3) (own_max p0 p1) (own_max p2 p3) (own_min p0 p1) (own_max p2 p3)))])) _
      refine XS.ifNo X117.here hx rfl (own_hb hby at_151) rfl ((if0 _ _).trans (feq (own_nz (own_in_self _ _ _ _ _ _ (own_irr _) (own_mm p0 p1) (own_mm p2 p3) (own_irr _)))).1) ?_
      show Steps p.tables e below (T117.setTop (mkF m 154 #[.val (.int p0), .val (.int p1), .val (.int p2), .val (.int p3), .val (.int p4), .val (.int p5), .val (.int (own_min p0 p1)), .val (.int (own_max p0 p1)), .val (.int (own_min p2 p3)), .val (.int (own_max p2 p3)), .val (.ref b102), .val (.int (own_in (own_min p0 p1) (own_min p2 p3) (own_max p0 p1) (own_max p2 p3) p4 p5)), .val (.int (0 : Int32)), .val (.int (own_in (own_min p0 p1) (own_min p2 p3) (own_max p0 p1) (own_max p2 p3) (own_min p0 p1) (own_min p2 p3))), .val (.int (own_in (own_min p0 p1) (own_min p2 p3) (own_max p0 p1) (own_max p2 p3) (own_max p0 p1) (own_max p2 p3))), .val (.int (own_in (own_min p0 p1) (own_min p2 p3) (own_max p0 p1) (own_max p2 p3) (own_min p0 p1) (own_max p2 p3)))] [])) _
      refine XS.iconst X117.here hx rfl (own_hb hby at_154) ?_
      show Steps p.tables e below (T117.setTop (mkF m 155 #[.val (.int p0), .val (.int p1), .val (.int p2), .val (.int p3), .val (.int p4), .val (.int p5), .val (.int (own_min p0 p1)), .val (.int (own_max p0 p1)), .val (.int (own_min p2 p3)), .val (.int (own_max p2 p3)), .val (.ref b102), .val (.int (own_in (own_min p0 p1) (own_min p2 p3) (own_max p0 p1) (own_max p2 p3) p4 p5)), .val (.int (0 : Int32)), .val (.int (own_in (own_min p0 p1) (own_min p2 p3) (own_max p0 p1) (own_max p2 p3) (own_min p0 p1) (own_min p2 p3))), .val (.int (own_in (own_min p0 p1) (own_min p2 p3) (own_max p0 p1) (own_max p2 p3) (own_max p0 p1) (own_max p2 p3))), .val (.int (own_in (own_min p0 p1) (own_min p2 p3) (own_max p0 p1) (own_max p2 p3) (own_min p0 p1) (own_max p2 p3)))] [(.int (1 : Int32))])) _
      refine XS.goto X117.here hx rfl (pc0 := 155) (pc' := 159) rfl (own_hb hby at_155) (by decide) (by decide) ?_
      exact kt
    exact own_retNW (vm0 := T109.vm) X117 hS109 (Nat.le_refl _) hx hlk (t := .boolean) hret (by simp) (own_hb hby at_159) hh117 ⟨rfl, N117⟩ (by decide) (by decide)
  · skip
    refine own_Go.of (S' := (T113.setTop (mkF m 80 #[.val (.int p0), .val (.int p1), .val (.int p2), .val (.int p3), .val (.int p4), .val (.int p5), .val (.int (own_min p0 p1)), .val (.int (own_max p0 p1)), .val (.int (own_min p2 p3)), .val (.int (own_max p2 p3)), .val (.ref b102), .val (.int (own_in (own_min p0 p1) (own_min p2 p3) (own_max p0 p1) (own_max p2 p3) p4 p5)), .unset, .unset, .unset, .unset] [(.int (own_max p2 p3)), (.int (own_min p2 p3)), (.int p5)]))) (fun t kt => ?_) ?_
    · show Steps p.tables e below (T113.setTop (mkF m 71 #[.val (.int p0), .val (.int p1), .val (.int p2), .val (.int p3), .val (.int p4), .val (.int p5), .val (.int (own_min p0 p1)), .val (.int (own_max p0 p1)), .val (.int (own_min p2 p3)), .val (.int (own_max p2 p3)), .val (.ref b102), .val (.int (own_in (own_min p0 p1) (own_min p2 p3) (own_max p0 p1) (own_max p2 p3) p4 p5)), .unset, .unset, .unset, .unset] [(.int (own_cl p4 (own_min p0 p1) (own_max p0 p1)))])) _
      refine XS.ifNo X113.here hx rfl (own_hb hby at_71) rfl ((if0 _ _).trans (feq hc71_114).1) ?_
      show Steps p.tables e below (T113.setTop (mkF m 74 #[.val (.int p0), .val (.int p1), .val (.int p2), .val (.int p3), .val (.int p4), .val (.int p5), .val (.int (own_min p0 p1)), .val (.int (own_max p0 p1)), .val (.int (own_min p2 p3)), .val (.int (own_max p2 p3)), .val (.ref b102), .val (.int (own_in (own_min p0 p1) (own_min p2 p3) (own_max p0 p1) (own_max p2 p3) p4 p5)), .unset, .unset, .unset, .unset] [])) _
      refine XS.iload X113.here hx rfl (own_hb hby at_74) rfl ?_
      show Steps p.tables e below (T113.setTop (mkF m 76 #[.val (.int p0), .val (.int p1), .val (.int p2), .val (.int p3), .val (.int p4), .val (.int p5), .val (.int (own_min p0 p1)), .val (.int (own_max p0 p1)), .val (.int (own_min p2 p3)), .val (.int (own_max p2 p3)), .val (.ref b102), .val (.int (own_in (own_min p0 p1) (own_min p2 p3) (own_max p0 p1) (own_max p2 p3) p4 p5)), .unset, .unset, .unset, .unset] [(.int p5)])) _
      refine XS.iload X113.here hx rfl (own_hb hby at_76) rfl ?_
      show Steps p.tables e below (T113.setTop (mkF m 78 #[.val (.int p0), .val (.int p1), .val (.int p2), .val (.int p3), .val (.int p4), .val (.int p5), .val (.int (own_min p0 p1)), .val (.int (own_max p0 p1)), .val (.int (own_min p2 p3)), .val (.int (own_max p2 p3)), .val (.ref b102), .val (.int (own_in (own_min p0 p1) (own_min p2 p3) (own_max p0 p1) (own_max p2 p3) p4 p5)), .unset, .unset, .unset, .unset] [(.int (own_min p2 p3)), (.int p5)])) _
      refine XS.iload X113.here hx rfl (own_hb hby at_78) rfl ?_
      exact kt
    obtain ⟨_, _, ⟨T118, L118, k118, n118⟩, -, X118, ⟨Lc118, hQ118, l118, y118, z118⟩, st118⟩ := Jvm.LawKit.callS X113 hx (y := (⟨"com/example/sagasu/sagasu/ExtentContainsPinLaw", "inClosed", "(III)Z"⟩ : MethodName)) hown (mvT hZ (hw _ (List.mem_of_getElem? (i := 52) rfl))) (mvT hZ (hw _ (List.mem_of_getElem? (i := 53) rfl))) (mvT hZ (hw _ (List.mem_of_getElem? (i := 54) rfl))) (mvT hZ (hw _ (List.mem_of_getElem? (i := 55) rfl))) (by decide) (backOf (W := 0) (rm9 l Z a0 hw [] p5 (own_min p2 p3) (own_max p2 p3) T109.heap n0 z111 ) hZ (hw _ (List.mem_of_getElem? (i := 55) rfl)) (hw _ (List.mem_of_getElem? (i := 54) rfl)) (by decide) (by decide)) (g := (mkF m 80 #[.val (.int p0), .val (.int p1), .val (.int p2), .val (.int p3), .val (.int p4), .val (.int p5), .val (.int (own_min p0 p1)), .val (.int (own_max p0 p1)), .val (.int (own_min p2 p3)), .val (.int (own_max p2 p3)), .val (.ref b102), .val (.int (own_in (own_min p0 p1) (own_min p2 p3) (own_max p0 p1) (own_max p2 p3) p4 p5)), .unset, .unset, .unset, .unset] [(.int (own_max p2 p3)), (.int (own_min p2 p3)), (.int p5)])) rfl (by rw [hml]; rfl) (argsL := [(.int p5), (.int (own_min p2 p3)), (.int (own_max p2 p3))]) (rest := []) (lenOf pd_5 rfl) rfl (by show 2 * 0 + _ ≤ _; exact Nat.le_of_eq rfl) (own_hb hby at_80) (fun _ _ => ⟨rfl, hh113, (by decide : 9 + 0 ≤ _), (by decide : 164 + 0 ≤ _)⟩)
    dsimp only [Pt.U, Pt.locs, Pt.cells, Pt.slots] at X118 l118 y118 z118 st118 hQ118
    subst l118 y118 z118
    obtain ⟨rfl, N118q, hh118⟩ := hQ118
    have N118 := Fr.app N113 N118q
    refine own_Go.of (S' := (T118.setTop (mkF m 83 #[.val (.int p0), .val (.int p1), .val (.int p2), .val (.int p3), .val (.int p4), .val (.int p5), .val (.int (own_min p0 p1)), .val (.int (own_max p0 p1)), .val (.int (own_min p2 p3)), .val (.int (own_max p2 p3)), .val (.ref b102), .val (.int (own_in (own_min p0 p1) (own_min p2 p3) (own_max p0 p1) (own_max p2 p3) p4 p5)), .unset, .unset, .unset, .unset] [(.int (own_cl p5 (own_min p2 p3) (own_max p2 p3)))]))) (fun t kt => st118 t kt) ?_
    by_cases hc83_119 : (own_cl p5 (own_min p2 p3) (own_max p2 p3)) = (0 : Int32)
    · skip
      refine own_Go.of (S' := (T118.setTop (mkF m 101 #[.val (.int p0), .val (.int p1), .val (.int p2), .val (.int p3), .val (.int p4), .val (.int p5), .val (.int (own_min p0 p1)), .val (.int (own_max p0 p1)), .val (.int (own_min p2 p3)), .val (.int (own_max p2 p3)), .val (.ref b102), .val (.int (own_in (own_min p0 p1) (own_min p2 p3) (own_max p0 p1) (own_max p2 p3) p4 p5)), .val (.int (0 : Int32)), .unset, .unset, .unset] [(.double (FP.i2d (own_min p2 p3))), (.double (FP.i2d (own_min p0 p1))), (.ref b102)]))) (fun t kt => ?_) ?_
      · show Steps p.tables e below (T118.setTop (mkF m 83 #[.val (.int p0), .val (.int p1), .val (.int p2), .val (.int p3), .val (.int p4), .val (.int p5), .val (.int (own_min p0 p1)), .val (.int (own_max p0 p1)), .val (.int (own_min p2 p3)), .val (.int (own_max p2 p3)), .val (.ref b102), .val (.int (own_in (own_min p0 p1) (own_min p2 p3) (own_max p0 p1) (own_max p2 p3) p4 p5)), .unset, .unset, .unset, .unset] [(.int (own_cl p5 (own_min p2 p3) (own_max p2 p3)))])) _
        refine XS.ifYes X118.here hx rfl (pc0 := 83) (pc' := 90) rfl (own_hb hby at_83) rfl ((if0 _ _).trans (teq hc83_119).1) (by decide) (by decide) ?_
        show Steps p.tables e below (T118.setTop (mkF m 90 #[.val (.int p0), .val (.int p1), .val (.int p2), .val (.int p3), .val (.int p4), .val (.int p5), .val (.int (own_min p0 p1)), .val (.int (own_max p0 p1)), .val (.int (own_min p2 p3)), .val (.int (own_max p2 p3)), .val (.ref b102), .val (.int (own_in (own_min p0 p1) (own_min p2 p3) (own_max p0 p1) (own_max p2 p3) p4 p5)), .unset, .unset, .unset, .unset] [])) _
        refine XS.iconst X118.here hx rfl (own_hb hby at_90) ?_
        show Steps p.tables e below (T118.setTop (mkF m 91 #[.val (.int p0), .val (.int p1), .val (.int p2), .val (.int p3), .val (.int p4), .val (.int p5), .val (.int (own_min p0 p1)), .val (.int (own_max p0 p1)), .val (.int (own_min p2 p3)), .val (.int (own_max p2 p3)), .val (.ref b102), .val (.int (own_in (own_min p0 p1) (own_min p2 p3) (own_max p0 p1) (own_max p2 p3) p4 p5)), .unset, .unset, .unset, .unset] [(.int (0 : Int32))])) _
        refine XS.istore X118.here hx rfl (own_hb hby at_91) rfl (l' := #[.val (.int p0), .val (.int p1), .val (.int p2), .val (.int p3), .val (.int p4), .val (.int p5), .val (.int (own_min p0 p1)), .val (.int (own_max p0 p1)), .val (.int (own_min p2 p3)), .val (.int (own_max p2 p3)), .val (.ref b102), .val (.int (own_in (own_min p0 p1) (own_min p2 p3) (own_max p0 p1) (own_max p2 p3) p4 p5)), .val (.int (0 : Int32)), .unset, .unset, .unset]) rfl ?_
        show Steps p.tables e below (T118.setTop (mkF m 93 #[.val (.int p0), .val (.int p1), .val (.int p2), .val (.int p3), .val (.int p4), .val (.int p5), .val (.int (own_min p0 p1)), .val (.int (own_max p0 p1)), .val (.int (own_min p2 p3)), .val (.int (own_max p2 p3)), .val (.ref b102), .val (.int (own_in (own_min p0 p1) (own_min p2 p3) (own_max p0 p1) (own_max p2 p3) p4 p5)), .val (.int (0 : Int32)), .unset, .unset, .unset] [])) _
        refine XS.aload X118.here hx rfl (own_hb hby at_93) rfl rfl ?_
        show Steps p.tables e below (T118.setTop (mkF m 95 #[.val (.int p0), .val (.int p1), .val (.int p2), .val (.int p3), .val (.int p4), .val (.int p5), .val (.int (own_min p0 p1)), .val (.int (own_max p0 p1)), .val (.int (own_min p2 p3)), .val (.int (own_max p2 p3)), .val (.ref b102), .val (.int (own_in (own_min p0 p1) (own_min p2 p3) (own_max p0 p1) (own_max p2 p3) p4 p5)), .val (.int (0 : Int32)), .unset, .unset, .unset] [(.ref b102)])) _
        refine XS.iload X118.here hx rfl (own_hb hby at_95) rfl ?_
        show Steps p.tables e below (T118.setTop (mkF m 97 #[.val (.int p0), .val (.int p1), .val (.int p2), .val (.int p3), .val (.int p4), .val (.int p5), .val (.int (own_min p0 p1)), .val (.int (own_max p0 p1)), .val (.int (own_min p2 p3)), .val (.int (own_max p2 p3)), .val (.ref b102), .val (.int (own_in (own_min p0 p1) (own_min p2 p3) (own_max p0 p1) (own_max p2 p3) p4 p5)), .val (.int (0 : Int32)), .unset, .unset, .unset] [(.int (own_min p0 p1)), (.ref b102)])) _
        refine own_i2d X118.here hx rfl (own_hb hby at_97) rfl ?_
        show Steps p.tables e below (T118.setTop (mkF m 98 #[.val (.int p0), .val (.int p1), .val (.int p2), .val (.int p3), .val (.int p4), .val (.int p5), .val (.int (own_min p0 p1)), .val (.int (own_max p0 p1)), .val (.int (own_min p2 p3)), .val (.int (own_max p2 p3)), .val (.ref b102), .val (.int (own_in (own_min p0 p1) (own_min p2 p3) (own_max p0 p1) (own_max p2 p3) p4 p5)), .val (.int (0 : Int32)), .unset, .unset, .unset] [(.double (FP.i2d (own_min p0 p1))), (.ref b102)])) _
        refine XS.iload X118.here hx rfl (own_hb hby at_98) rfl ?_
        show Steps p.tables e below (T118.setTop (mkF m 100 #[.val (.int p0), .val (.int p1), .val (.int p2), .val (.int p3), .val (.int p4), .val (.int p5), .val (.int (own_min p0 p1)), .val (.int (own_max p0 p1)), .val (.int (own_min p2 p3)), .val (.int (own_max p2 p3)), .val (.ref b102), .val (.int (own_in (own_min p0 p1) (own_min p2 p3) (own_max p0 p1) (own_max p2 p3) p4 p5)), .val (.int (0 : Int32)), .unset, .unset, .unset] [(.int (own_min p2 p3)), (.double (FP.i2d (own_min p0 p1))), (.ref b102)])) _
        refine own_i2d X118.here hx rfl (own_hb hby at_100) rfl ?_
        exact kt
      obtain ⟨cq120, kq120, q120a, q120b, q120c⟩ := isOf hZ hh118 p109_0
      obtain ⟨_, _, ⟨T120, L120, k120, n120⟩, -, X120, ⟨Lc120, hQ120, l120, y120, z120⟩, st120⟩ := X118.virtualBack hx (y := (⟨"com/example/sagasu/sagasu/Extent", "contains", "(DD)Z"⟩ : MethodName)) (z := (⟨"com/example/sagasu/sagasu/Extent", "contains", "(DD)Z"⟩ : MethodName)) hown (mvT hZ (hw _ (List.mem_of_getElem? (i := 47) rfl))) (mvT hZ (hw _ (List.mem_of_getElem? (i := 48) rfl))) (notFace_of_selects (args := #[]) (mvT hZ (hw _ (List.mem_of_getElem? (i := 50) rfl)))) (mvT hZ (hw _ (List.mem_of_getElem? (i := 50) rfl))) (mvT hZ (hw _ (List.mem_of_getElem? (i := 49) rfl))) (by decide) (backOf (W := 0) (rm8 l Z a0 hw [] b102 (own_min p0 p1) (own_min p2 p3) (own_min p0 p1) (own_min p2 p3) (own_max p0 p1) (own_max p2 p3) T109.heap n0 z111 p109_1 p109_2 p109_3 p109_4) hZ (hw _ (List.mem_of_getElem? (i := 51) rfl)) (hw _ (List.mem_of_getElem? (i := 9) rfl)) (by decide) (by decide)) q120a q120c (g := (mkF m 101 #[.val (.int p0), .val (.int p1), .val (.int p2), .val (.int p3), .val (.int p4), .val (.int p5), .val (.int (own_min p0 p1)), .val (.int (own_max p0 p1)), .val (.int (own_min p2 p3)), .val (.int (own_max p2 p3)), .val (.ref b102), .val (.int (own_in (own_min p0 p1) (own_min p2 p3) (own_max p0 p1) (own_max p2 p3) p4 p5)), .val (.int (0 : Int32)), .unset, .unset, .unset] [(.double (FP.i2d (own_min p2 p3))), (.double (FP.i2d (own_min p0 p1))), (.ref b102)])) rfl (by rw [hml]; rfl) (Steps.refl _) (argsL := [(.double (FP.i2d (own_min p0 p1))), (.double (FP.i2d (own_min p2 p3)))]) (rest := []) (lenOf pd_4 rfl) rfl (by show 2 * 0 + _ ≤ _; exact Nat.le_of_eq rfl) (own_hb hby at_101) (fun _ _ => ⟨rfl, hh118, (by decide : 9 + 0 ≤ _), (by decide : 164 + 0 ≤ _)⟩)
      dsimp only [Pt.U, Pt.locs, Pt.cells, Pt.slots] at X120 l120 y120 z120 st120 hQ120
      subst l120 y120 z120
      obtain ⟨rfl, N120q, hh120⟩ := hQ120
      have N120 := Fr.app N118 N120q
      refine own_Go.of (S' := (T120.setTop (mkF m 104 #[.val (.int p0), .val (.int p1), .val (.int p2), .val (.int p3), .val (.int p4), .val (.int p5), .val (.int (own_min p0 p1)), .val (.int (own_max p0 p1)), .val (.int (own_min p2 p3)), .val (.int (own_max p2 p3)), .val (.ref b102), .val (.int (own_in (own_min p0 p1) (own_min p2 p3) (own_max p0 p1) (own_max p2 p3) p4 p5)), .val (.int (0 : Int32)), .unset, .unset, .unset] [(.int (own_in (own_min p0 p1) (own_min p2 p3) (own_max p0 p1) (own_max p2 p3) (own_min p0 p1) (own_min p2 p3)))]))) (fun t kt => st120.trans kt) ?_
      refine own_Go.of (S' := (T120.setTop (mkF m 114 #[.val (.int p0), .val (.int p1), .val (.int p2), .val (.int p3), .val (.int p4), .val (.int p5), .val (.int (own_min p0 p1)), .val (.int (own_max p0 p1)), .val (.int (own_min p2 p3)), .val (.int (own_max p2 p3)), .val (.ref b102), .val (.int (own_in (own_min p0 p1) (own_min p2 p3) (own_max p0 p1) (own_max p2 p3) p4 p5)), .val (.int (0 : Int32)), .val (.int (own_in (own_min p0 p1) (own_min p2 p3) (own_max p0 p1) (own_max p2 p3) (own_min p0 p1) (own_min p2 p3))), .unset, .unset] [(.double (FP.i2d (own_max p2 p3))), (.double (FP.i2d (own_max p0 p1))), (.ref b102)]))) (fun t kt => ?_) ?_
      · show Steps p.tables e below (T120.setTop (mkF m 104 #[.val (.int p0), .val (.int p1), .val (.int p2), .val (.int p3), .val (.int p4), .val (.int p5), .val (.int (own_min p0 p1)), .val (.int (own_max p0 p1)), .val (.int (own_min p2 p3)), .val (.int (own_max p2 p3)), .val (.ref b102), .val (.int (own_in (own_min p0 p1) (own_min p2 p3) (own_max p0 p1) (own_max p2 p3) p4 p5)), .val (.int (0 : Int32)), .unset, .unset, .unset] [(.int (own_in (own_min p0 p1) (own_min p2 p3) (own_max p0 p1) (own_max p2 p3) (own_min p0 p1) (own_min p2 p3)))])) _
        refine XS.istore X120.here hx rfl (own_hb hby at_104) rfl (l' := #[.val (.int p0), .val (.int p1), .val (.int p2), .val (.int p3), .val (.int p4), .val (.int p5), .val (.int (own_min p0 p1)), .val (.int (own_max p0 p1)), .val (.int (own_min p2 p3)), .val (.int (own_max p2 p3)), .val (.ref b102), .val (.int (own_in (own_min p0 p1) (own_min p2 p3) (own_max p0 p1) (own_max p2 p3) p4 p5)), .val (.int (0 : Int32)), .val (.int (own_in (own_min p0 p1) (own_min p2 p3) (own_max p0 p1) (own_max p2 p3) (own_min p0 p1) (own_min p2 p3))), .unset, .unset]) rfl ?_
        show Steps p.tables e below (T120.setTop (mkF m 106 #[.val (.int p0), .val (.int p1), .val (.int p2), .val (.int p3), .val (.int p4), .val (.int p5), .val (.int (own_min p0 p1)), .val (.int (own_max p0 p1)), .val (.int (own_min p2 p3)), .val (.int (own_max p2 p3)), .val (.ref b102), .val (.int (own_in (own_min p0 p1) (own_min p2 p3) (own_max p0 p1) (own_max p2 p3) p4 p5)), .val (.int (0 : Int32)), .val (.int (own_in (own_min p0 p1) (own_min p2 p3) (own_max p0 p1) (own_max p2 p3) (own_min p0 p1) (own_min p2 p3))), .unset, .unset] [])) _
        refine XS.aload X120.here hx rfl (own_hb hby at_106) rfl rfl ?_
        show Steps p.tables e below (T120.setTop (mkF m 108 #[.val (.int p0), .val (.int p1), .val (.int p2), .val (.int p3), .val (.int p4), .val (.int p5), .val (.int (own_min p0 p1)), .val (.int (own_max p0 p1)), .val (.int (own_min p2 p3)), .val (.int (own_max p2 p3)), .val (.ref b102), .val (.int (own_in (own_min p0 p1) (own_min p2 p3) (own_max p0 p1) (own_max p2 p3) p4 p5)), .val (.int (0 : Int32)), .val (.int (own_in (own_min p0 p1) (own_min p2 p3) (own_max p0 p1) (own_max p2 p3) (own_min p0 p1) (own_min p2 p3))), .unset, .unset] [(.ref b102)])) _
        refine XS.iload X120.here hx rfl (own_hb hby at_108) rfl ?_
        show Steps p.tables e below (T120.setTop (mkF m 110 #[.val (.int p0), .val (.int p1), .val (.int p2), .val (.int p3), .val (.int p4), .val (.int p5), .val (.int (own_min p0 p1)), .val (.int (own_max p0 p1)), .val (.int (own_min p2 p3)), .val (.int (own_max p2 p3)), .val (.ref b102), .val (.int (own_in (own_min p0 p1) (own_min p2 p3) (own_max p0 p1) (own_max p2 p3) p4 p5)), .val (.int (0 : Int32)), .val (.int (own_in (own_min p0 p1) (own_min p2 p3) (own_max p0 p1) (own_max p2 p3) (own_min p0 p1) (own_min p2 p3))), .unset, .unset] [(.int (own_max p0 p1)), (.ref b102)])) _
        refine own_i2d X120.here hx rfl (own_hb hby at_110) rfl ?_
        show Steps p.tables e below (T120.setTop (mkF m 111 #[.val (.int p0), .val (.int p1), .val (.int p2), .val (.int p3), .val (.int p4), .val (.int p5), .val (.int (own_min p0 p1)), .val (.int (own_max p0 p1)), .val (.int (own_min p2 p3)), .val (.int (own_max p2 p3)), .val (.ref b102), .val (.int (own_in (own_min p0 p1) (own_min p2 p3) (own_max p0 p1) (own_max p2 p3) p4 p5)), .val (.int (0 : Int32)), .val (.int (own_in (own_min p0 p1) (own_min p2 p3) (own_max p0 p1) (own_max p2 p3) (own_min p0 p1) (own_min p2 p3))), .unset, .unset] [(.double (FP.i2d (own_max p0 p1))), (.ref b102)])) _
        refine XS.iload X120.here hx rfl (own_hb hby at_111) rfl ?_
        show Steps p.tables e below (T120.setTop (mkF m 113 #[.val (.int p0), .val (.int p1), .val (.int p2), .val (.int p3), .val (.int p4), .val (.int p5), .val (.int (own_min p0 p1)), .val (.int (own_max p0 p1)), .val (.int (own_min p2 p3)), .val (.int (own_max p2 p3)), .val (.ref b102), .val (.int (own_in (own_min p0 p1) (own_min p2 p3) (own_max p0 p1) (own_max p2 p3) p4 p5)), .val (.int (0 : Int32)), .val (.int (own_in (own_min p0 p1) (own_min p2 p3) (own_max p0 p1) (own_max p2 p3) (own_min p0 p1) (own_min p2 p3))), .unset, .unset] [(.int (own_max p2 p3)), (.double (FP.i2d (own_max p0 p1))), (.ref b102)])) _
        refine own_i2d X120.here hx rfl (own_hb hby at_113) rfl ?_
        exact kt
      obtain ⟨cq121, kq121, q121a, q121b, q121c⟩ := isOf hZ hh120 p109_0
      obtain ⟨_, _, ⟨T121, L121, k121, n121⟩, -, X121, ⟨Lc121, hQ121, l121, y121, z121⟩, st121⟩ := X120.virtualBack hx (y := (⟨"com/example/sagasu/sagasu/Extent", "contains", "(DD)Z"⟩ : MethodName)) (z := (⟨"com/example/sagasu/sagasu/Extent", "contains", "(DD)Z"⟩ : MethodName)) hown (mvT hZ (hw _ (List.mem_of_getElem? (i := 47) rfl))) (mvT hZ (hw _ (List.mem_of_getElem? (i := 48) rfl))) (notFace_of_selects (args := #[]) (mvT hZ (hw _ (List.mem_of_getElem? (i := 50) rfl)))) (mvT hZ (hw _ (List.mem_of_getElem? (i := 50) rfl))) (mvT hZ (hw _ (List.mem_of_getElem? (i := 49) rfl))) (by decide) (backOf (W := 0) (rm8 l Z a0 hw [] b102 (own_max p0 p1) (own_max p2 p3) (own_min p0 p1) (own_min p2 p3) (own_max p0 p1) (own_max p2 p3) T109.heap n0 z111 p109_1 p109_2 p109_3 p109_4) hZ (hw _ (List.mem_of_getElem? (i := 51) rfl)) (hw _ (List.mem_of_getElem? (i := 9) rfl)) (by decide) (by decide)) q121a q121c (g := (mkF m 114 #[.val (.int p0), .val (.int p1), .val (.int p2), .val (.int p3), .val (.int p4), .val (.int p5), .val (.int (own_min p0 p1)), .val (.int (own_max p0 p1)), .val (.int (own_min p2 p3)), .val (.int (own_max p2 p3)), .val (.ref b102), .val (.int (own_in (own_min p0 p1) (own_min p2 p3) (own_max p0 p1) (own_max p2 p3) p4 p5)), .val (.int (0 : Int32)), .val (.int (own_in (own_min p0 p1) (own_min p2 p3) (own_max p0 p1) (own_max p2 p3) (own_min p0 p1) (own_min p2 p3))), .unset, .unset] [(.double (FP.i2d (own_max p2 p3))), (.double (FP.i2d (own_max p0 p1))), (.ref b102)])) rfl (by rw [hml]; rfl) (Steps.refl _) (argsL := [(.double (FP.i2d (own_max p0 p1))), (.double (FP.i2d (own_max p2 p3)))]) (rest := []) (lenOf pd_4 rfl) rfl (by show 2 * 0 + _ ≤ _; exact Nat.le_of_eq rfl) (own_hb hby at_114) (fun _ _ => ⟨rfl, hh120, (by decide : 9 + 0 ≤ _), (by decide : 164 + 0 ≤ _)⟩)
      dsimp only [Pt.U, Pt.locs, Pt.cells, Pt.slots] at X121 l121 y121 z121 st121 hQ121
      subst l121 y121 z121
      obtain ⟨rfl, N121q, hh121⟩ := hQ121
      have N121 := Fr.app N120 N121q
      refine own_Go.of (S' := (T121.setTop (mkF m 117 #[.val (.int p0), .val (.int p1), .val (.int p2), .val (.int p3), .val (.int p4), .val (.int p5), .val (.int (own_min p0 p1)), .val (.int (own_max p0 p1)), .val (.int (own_min p2 p3)), .val (.int (own_max p2 p3)), .val (.ref b102), .val (.int (own_in (own_min p0 p1) (own_min p2 p3) (own_max p0 p1) (own_max p2 p3) p4 p5)), .val (.int (0 : Int32)), .val (.int (own_in (own_min p0 p1) (own_min p2 p3) (own_max p0 p1) (own_max p2 p3) (own_min p0 p1) (own_min p2 p3))), .unset, .unset] [(.int (own_in (own_min p0 p1) (own_min p2 p3) (own_max p0 p1) (own_max p2 p3) (own_max p0 p1) (own_max p2 p3)))]))) (fun t kt => st121.trans kt) ?_
      refine own_Go.of (S' := (T121.setTop (mkF m 127 #[.val (.int p0), .val (.int p1), .val (.int p2), .val (.int p3), .val (.int p4), .val (.int p5), .val (.int (own_min p0 p1)), .val (.int (own_max p0 p1)), .val (.int (own_min p2 p3)), .val (.int (own_max p2 p3)), .val (.ref b102), .val (.int (own_in (own_min p0 p1) (own_min p2 p3) (own_max p0 p1) (own_max p2 p3) p4 p5)), .val (.int (0 : Int32)), .val (.int (own_in (own_min p0 p1) (own_min p2 p3) (own_max p0 p1) (own_max p2 p3) (own_min p0 p1) (own_min p2 p3))), .val (.int (own_in (own_min p0 p1) (own_min p2 p3) (own_max p0 p1) (own_max p2 p3) (own_max p0 p1) (own_max p2 p3))), .unset] [(.double (FP.i2d (own_max p2 p3))), (.double (FP.i2d (own_min p0 p1))), (.ref b102)]))) (fun t kt => ?_) ?_
      · show Steps p.tables e below (T121.setTop (mkF m 117 #[.val (.int p0), .val (.int p1), .val (.int p2), .val (.int p3), .val (.int p4), .val (.int p5), .val (.int (own_min p0 p1)), .val (.int (own_max p0 p1)), .val (.int (own_min p2 p3)), .val (.int (own_max p2 p3)), .val (.ref b102), .val (.int (own_in (own_min p0 p1) (own_min p2 p3) (own_max p0 p1) (own_max p2 p3) p4 p5)), .val (.int (0 : Int32)), .val (.int (own_in (own_min p0 p1) (own_min p2 p3) (own_max p0 p1) (own_max p2 p3) (own_min p0 p1) (own_min p2 p3))), .unset, .unset] [(.int (own_in (own_min p0 p1) (own_min p2 p3) (own_max p0 p1) (own_max p2 p3) (own_max p0 p1) (own_max p2 p3)))])) _
        refine XS.istore X121.here hx rfl (own_hb hby at_117) rfl (l' := #[.val (.int p0), .val (.int p1), .val (.int p2), .val (.int p3), .val (.int p4), .val (.int p5), .val (.int (own_min p0 p1)), .val (.int (own_max p0 p1)), .val (.int (own_min p2 p3)), .val (.int (own_max p2 p3)), .val (.ref b102), .val (.int (own_in (own_min p0 p1) (own_min p2 p3) (own_max p0 p1) (own_max p2 p3) p4 p5)), .val (.int (0 : Int32)), .val (.int (own_in (own_min p0 p1) (own_min p2 p3) (own_max p0 p1) (own_max p2 p3) (own_min p0 p1) (own_min p2 p3))), .val (.int (own_in (own_min p0 p1) (own_min p2 p3) (own_max p0 p1) (own_max p2 p3) (own_max p0 p1) (own_max p2 p3))), .unset]) rfl ?_
        show Steps p.tables e below (T121.setTop (mkF m 119 #[.val (.int p0), .val (.int p1), .val (.int p2), .val (.int p3), .val (.int p4), .val (.int p5), .val (.int (own_min p0 p1)), .val (.int (own_max p0 p1)), .val (.int (own_min p2 p3)), .val (.int (own_max p2 p3)), .val (.ref b102), .val (.int (own_in (own_min p0 p1) (own_min p2 p3) (own_max p0 p1) (own_max p2 p3) p4 p5)), .val (.int (0 : Int32)), .val (.int (own_in (own_min p0 p1) (own_min p2 p3) (own_max p0 p1) (own_max p2 p3) (own_min p0 p1) (own_min p2 p3))), .val (.int (own_in (own_min p0 p1) (own_min p2 p3) (own_max p0 p1) (own_max p2 p3) (own_max p0 p1) (own_max p2 p3))), .unset] [])) _
        refine XS.aload X121.here hx rfl (own_hb hby at_119) rfl rfl ?_
        show Steps p.tables e below (T121.setTop (mkF m 121 #[.val (.int p0), .val (.int p1), .val (.int p2), .val (.int p3), .val (.int p4), .val (.int p5), .val (.int (own_min p0 p1)), .val (.int (own_max p0 p1)), .val (.int (own_min p2 p3)), .val (.int (own_max p2 p3)), .val (.ref b102), .val (.int (own_in (own_min p0 p1) (own_min p2 p3) (own_max p0 p1) (own_max p2 p3) p4 p5)), .val (.int (0 : Int32)), .val (.int (own_in (own_min p0 p1) (own_min p2 p3) (own_max p0 p1) (own_max p2 p3) (own_min p0 p1) (own_min p2 p3))), .val (.int (own_in (own_min p0 p1) (own_min p2 p3) (own_max p0 p1) (own_max p2 p3) (own_max p0 p1) (own_max p2 p3))), .unset] [(.ref b102)])) _
        refine XS.iload X121.here hx rfl (own_hb hby at_121) rfl ?_
        show Steps p.tables e below (T121.setTop (mkF m 123 #[.val (.int p0), .val (.int p1), .val (.int p2), .val (.int p3), .val (.int p4), .val (.int p5), .val (.int (own_min p0 p1)), .val (.int (own_max p0 p1)), .val (.int (own_min p2 p3)), .val (.int (own_max p2 p3)), .val (.ref b102), .val (.int (own_in (own_min p0 p1) (own_min p2 p3) (own_max p0 p1) (own_max p2 p3) p4 p5)), .val (.int (0 : Int32)), .val (.int (own_in (own_min p0 p1) (own_min p2 p3) (own_max p0 p1) (own_max p2 p3) (own_min p0 p1) (own_min p2 p3))), .val (.int (own_in (own_min p0 p1) (own_min p2 p3) (own_max p0 p1) (own_max p2 p3) (own_max p0 p1) (own_max p2 p3))), .unset] [(.int (own_min p0 p1)), (.ref b102)])) _
        refine own_i2d X121.here hx rfl (own_hb hby at_123) rfl ?_
        show Steps p.tables e below (T121.setTop (mkF m 124 #[.val (.int p0), .val (.int p1), .val (.int p2), .val (.int p3), .val (.int p4), .val (.int p5), .val (.int (own_min p0 p1)), .val (.int (own_max p0 p1)), .val (.int (own_min p2 p3)), .val (.int (own_max p2 p3)), .val (.ref b102), .val (.int (own_in (own_min p0 p1) (own_min p2 p3) (own_max p0 p1) (own_max p2 p3) p4 p5)), .val (.int (0 : Int32)), .val (.int (own_in (own_min p0 p1) (own_min p2 p3) (own_max p0 p1) (own_max p2 p3) (own_min p0 p1) (own_min p2 p3))), .val (.int (own_in (own_min p0 p1) (own_min p2 p3) (own_max p0 p1) (own_max p2 p3) (own_max p0 p1) (own_max p2 p3))), .unset] [(.double (FP.i2d (own_min p0 p1))), (.ref b102)])) _
        refine XS.iload X121.here hx rfl (own_hb hby at_124) rfl ?_
        show Steps p.tables e below (T121.setTop (mkF m 126 #[.val (.int p0), .val (.int p1), .val (.int p2), .val (.int p3), .val (.int p4), .val (.int p5), .val (.int (own_min p0 p1)), .val (.int (own_max p0 p1)), .val (.int (own_min p2 p3)), .val (.int (own_max p2 p3)), .val (.ref b102), .val (.int (own_in (own_min p0 p1) (own_min p2 p3) (own_max p0 p1) (own_max p2 p3) p4 p5)), .val (.int (0 : Int32)), .val (.int (own_in (own_min p0 p1) (own_min p2 p3) (own_max p0 p1) (own_max p2 p3) (own_min p0 p1) (own_min p2 p3))), .val (.int (own_in (own_min p0 p1) (own_min p2 p3) (own_max p0 p1) (own_max p2 p3) (own_max p0 p1) (own_max p2 p3))), .unset] [(.int (own_max p2 p3)), (.double (FP.i2d (own_min p0 p1))), (.ref b102)])) _
        refine own_i2d X121.here hx rfl (own_hb hby at_126) rfl ?_
        exact kt
      obtain ⟨cq122, kq122, q122a, q122b, q122c⟩ := isOf hZ hh121 p109_0
      obtain ⟨_, _, ⟨T122, L122, k122, n122⟩, -, X122, ⟨Lc122, hQ122, l122, y122, z122⟩, st122⟩ := X121.virtualBack hx (y := (⟨"com/example/sagasu/sagasu/Extent", "contains", "(DD)Z"⟩ : MethodName)) (z := (⟨"com/example/sagasu/sagasu/Extent", "contains", "(DD)Z"⟩ : MethodName)) hown (mvT hZ (hw _ (List.mem_of_getElem? (i := 47) rfl))) (mvT hZ (hw _ (List.mem_of_getElem? (i := 48) rfl))) (notFace_of_selects (args := #[]) (mvT hZ (hw _ (List.mem_of_getElem? (i := 50) rfl)))) (mvT hZ (hw _ (List.mem_of_getElem? (i := 50) rfl))) (mvT hZ (hw _ (List.mem_of_getElem? (i := 49) rfl))) (by decide) (backOf (W := 0) (rm8 l Z a0 hw [] b102 (own_min p0 p1) (own_max p2 p3) (own_min p0 p1) (own_min p2 p3) (own_max p0 p1) (own_max p2 p3) T109.heap n0 z111 p109_1 p109_2 p109_3 p109_4) hZ (hw _ (List.mem_of_getElem? (i := 51) rfl)) (hw _ (List.mem_of_getElem? (i := 9) rfl)) (by decide) (by decide)) q122a q122c (g := (mkF m 127 #[.val (.int p0), .val (.int p1), .val (.int p2), .val (.int p3), .val (.int p4), .val (.int p5), .val (.int (own_min p0 p1)), .val (.int (own_max p0 p1)), .val (.int (own_min p2 p3)), .val (.int (own_max p2 p3)), .val (.ref b102), .val (.int (own_in (own_min p0 p1) (own_min p2 p3) (own_max p0 p1) (own_max p2 p3) p4 p5)), .val (.int (0 : Int32)), .val (.int (own_in (own_min p0 p1) (own_min p2 p3) (own_max p0 p1) (own_max p2 p3) (own_min p0 p1) (own_min p2 p3))), .val (.int (own_in (own_min p0 p1) (own_min p2 p3) (own_max p0 p1) (own_max p2 p3) (own_max p0 p1) (own_max p2 p3))), .unset] [(.double (FP.i2d (own_max p2 p3))), (.double (FP.i2d (own_min p0 p1))), (.ref b102)])) rfl (by rw [hml]; rfl) (Steps.refl _) (argsL := [(.double (FP.i2d (own_min p0 p1))), (.double (FP.i2d (own_max p2 p3)))]) (rest := []) (lenOf pd_4 rfl) rfl (by show 2 * 0 + _ ≤ _; exact Nat.le_of_eq rfl) (own_hb hby at_127) (fun _ _ => ⟨rfl, hh121, (by decide : 9 + 0 ≤ _), (by decide : 164 + 0 ≤ _)⟩)
      dsimp only [Pt.U, Pt.locs, Pt.cells, Pt.slots] at X122 l122 y122 z122 st122 hQ122
      subst l122 y122 z122
      obtain ⟨rfl, N122q, hh122⟩ := hQ122
      have N122 := Fr.app N121 N122q
      refine own_Go.of (S' := (T122.setTop (mkF m 130 #[.val (.int p0), .val (.int p1), .val (.int p2), .val (.int p3), .val (.int p4), .val (.int p5), .val (.int (own_min p0 p1)), .val (.int (own_max p0 p1)), .val (.int (own_min p2 p3)), .val (.int (own_max p2 p3)), .val (.ref b102), .val (.int (own_in (own_min p0 p1) (own_min p2 p3) (own_max p0 p1) (own_max p2 p3) p4 p5)), .val (.int (0 : Int32)), .val (.int (own_in (own_min p0 p1) (own_min p2 p3) (own_max p0 p1) (own_max p2 p3) (own_min p0 p1) (own_min p2 p3))), .val (.int (own_in (own_min p0 p1) (own_min p2 p3) (own_max p0 p1) (own_max p2 p3) (own_max p0 p1) (own_max p2 p3))), .unset] [(.int (own_in (own_min p0 p1) (own_min p2 p3) (own_max p0 p1) (own_max p2 p3) (own_min p0 p1) (own_max p2 p3)))]))) (fun t kt => st122.trans kt) ?_
      refine own_Go.of (S' := (T122.setTop (mkF m 159 #[.val (.int p0), .val (.int p1), .val (.int p2), .val (.int p3), .val (.int p4), .val (.int p5), .val (.int (own_min p0 p1)), .val (.int (own_max p0 p1)), .val (.int (own_min p2 p3)), .val (.int (own_max p2 p3)), .val (.ref b102), .val (.int (own_in (own_min p0 p1) (own_min p2 p3) (own_max p0 p1) (own_max p2 p3) p4 p5)), .val (.int (0 : Int32)), .val (.int (own_in (own_min p0 p1) (own_min p2 p3) (own_max p0 p1) (own_max p2 p3) (own_min p0 p1) (own_min p2 p3))), .val (.int (own_in (own_min p0 p1) (own_min p2 p3) (own_max p0 p1) (own_max p2 p3) (own_max p0 p1) (own_max p2 p3))), .val (.int (own_in (own_min p0 p1) (own_min p2 p3) (own_max p0 p1) (own_max p2 p3) (own_min p0 p1) (own_max p2 p3)))] [(.int (1 : Int32))]))) (fun t kt => ?_) ?_
      · show Steps p.tables e below (T122.setTop (mkF m 130 #[.val (.int p0), .val (.int p1), .val (.int p2), .val (.int p3), .val (.int p4), .val (.int p5), .val (.int (own_min p0 p1)), .val (.int (own_max p0 p1)), .val (.int (own_min p2 p3)), .val (.int (own_max p2 p3)), .val (.ref b102), .val (.int (own_in (own_min p0 p1) (own_min p2 p3) (own_max p0 p1) (own_max p2 p3) p4 p5)), .val (.int (0 : Int32)), .val (.int (own_in (own_min p0 p1) (own_min p2 p3) (own_max p0 p1) (own_max p2 p3) (own_min p0 p1) (own_min p2 p3))), .val (.int (own_in (own_min p0 p1) (own_min p2 p3) (own_max p0 p1) (own_max p2 p3) (own_max p0 p1) (own_max p2 p3))), .unset] [(.int (own_in (own_min p0 p1) (own_min p2 p3) (own_max p0 p1) (own_max p2 p3) (own_min p0 p1) (own_max p2 p3)))])) _
        refine XS.istore X122.here hx rfl (own_hb hby at_130) rfl (l' := #[.val (.int p0), .val (.int p1), .val (.int p2), .val (.int p3), .val (.int p4), .val (.int p5), .val (.int (own_min p0 p1)), .val (.int (own_max p0 p1)), .val (.int (own_min p2 p3)), .val (.int (own_max p2 p3)), .val (.ref b102), .val (.int (own_in (own_min p0 p1) (own_min p2 p3) (own_max p0 p1) (own_max p2 p3) p4 p5)), .val (.int (0 : Int32)), .val (.int (own_in (own_min p0 p1) (own_min p2 p3) (own_max p0 p1) (own_max p2 p3) (own_min p0 p1) (own_min p2 p3))), .val (.int (own_in (own_min p0 p1) (own_min p2 p3) (own_max p0 p1) (own_max p2 p3) (own_max p0 p1) (own_max p2 p3))), .val (.int (own_in (own_min p0 p1) (own_min p2 p3) (own_max p0 p1) (own_max p2 p3) (own_min p0 p1) (own_max p2 p3)))]) rfl ?_
        show Steps p.tables e below (T122.setTop (mkF m 132 #[.val (.int p0), .val (.int p1), .val (.int p2), .val (.int p3), .val (.int p4), .val (.int p5), .val (.int (own_min p0 p1)), .val (.int (own_max p0 p1)), .val (.int (own_min p2 p3)), .val (.int (own_max p2 p3)), .val (.ref b102), .val (.int (own_in (own_min p0 p1) (own_min p2 p3) (own_max p0 p1) (own_max p2 p3) p4 p5)), .val (.int (0 : Int32)), .val (.int (own_in (own_min p0 p1) (own_min p2 p3) (own_max p0 p1) (own_max p2 p3) (own_min p0 p1) (own_min p2 p3))), .val (.int (own_in (own_min p0 p1) (own_min p2 p3) (own_max p0 p1) (own_max p2 p3) (own_max p0 p1) (own_max p2 p3))), .val (.int (own_in (own_min p0 p1) (own_min p2 p3) (own_max p0 p1) (own_max p2 p3) (own_min p0 p1) (own_max p2 p3)))] [])) _
        refine XS.iload X122.here hx rfl (own_hb hby at_132) rfl ?_
        show Steps p.tables e below (T122.setTop (mkF m 134 #[.val (.int p0), .val (.int p1), .val (.int p2), .val (.int p3), .val (.int p4), .val (.int p5), .val (.int (own_min p0 p1)), .val (.int (own_max p0 p1)), .val (.int (own_min p2 p3)), .val (.int (own_max p2 p3)), .val (.ref b102), .val (.int (own_in (own_min p0 p1) (own_min p2 p3) (own_max p0 p1) (own_max p2 p3) p4 p5)), .val (.int (0 : Int32)), .val (.int (own_in (own_min p0 p1) (own_min p2 p3) (own_max p0 p1) (own_max p2 p3) (own_min p0 p1) (own_min p2 p3))), .val (.int (own_in (own_min p0 p1) (own_min p2 p3) (own_max p0 p1) (own_max p2 p3) (own_max p0 p1) (own_max p2 p3))), .val (.int (own_in (own_min p0 p1) (own_min p2 p3) (own_max p0 p1) (own_max p2 p3) (own_min p0 p1) (own_max p2 p3)))] [(.int (own_in (own_min p0 p1) (own_min p2 p3) (own_max p0 p1) (own_max p2 p3) p4 p5))])) _
        refine XS.iload X122.here hx rfl (own_hb hby at_134) rfl ?_
        show Steps p.tables e below (T122.setTop (mkF m 136 #[.val (.int p0), .val (.int p1), .val (.int p2), .val (.int p3), .val (.int p4), .val (.int p5), .val (.int (own_min p0 p1)), .val (.int (own_max p0 p1)), .val (.int (own_min p2 p3)), .val (.int (own_max p2 p3)), .val (.ref b102), .val (.int (own_in (own_min p0 p1) (own_min p2 p3) (own_max p0 p1) (own_max p2 p3) p4 p5)), .val (.int (0 : Int32)), .val (.int (own_in (own_min p0 p1) (own_min p2 p3) (own_max p0 p1) (own_max p2 p3) (own_min p0 p1) (own_min p2 p3))), .val (.int (own_in (own_min p0 p1) (own_min p2 p3) (own_max p0 p1) (own_max p2 p3) (own_max p0 p1) (own_max p2 p3))), .val (.int (own_in (own_min p0 p1) (own_min p2 p3) (own_max p0 p1) (own_max p2 p3) (own_min p0 p1) (own_max p2 p3)))] [(.int (0 : Int32)), (.int (own_in (own_min p0 p1) (own_min p2 p3) (own_max p0 p1) (own_max p2 p3) p4 p5))])) _
        refine XS.icmpNo X122.here hx rfl (own_hb hby at_136) rfl (teq (own_f3 (own_mm p2 p3) hc83_119)).2 ?_
        show Steps p.tables e below (T122.setTop (mkF m 139 #[.val (.int p0), .val (.int p1), .val (.int p2), .val (.int p3), .val (.int p4), .val (.int p5), .val (.int (own_min p0 p1)), .val (.int (own_max p0 p1)), .val (.int (own_min p2 p3)), .val (.int (own_max p2 p3)), .val (.ref b102), .val (.int (own_in (own_min p0 p1) (own_min p2 p3) (own_max p0 p1) (own_max p2 p3) p4 p5)), .val (.int (0 : Int32)), .val (.int (own_in (own_min p0 p1) (own_min p2 p3) (own_max p0 p1) (own_max p2 p3) (own_min p0 p1) (own_min p2 p3))), .val (.int (own_in (own_min p0 p1) (own_min p2 p3) (own_max p0 p1) (own_max p2 p3) (own_max p0 p1) (own_max p2 p3))), .val (.int (own_in (own_min p0 p1) (own_min p2 p3) (own_max p0 p1) (own_max p2 p3) (own_min p0 p1) (own_max p2 p3)))] [])) _
        refine XS.iload X122.here hx rfl (own_hb hby at_139) rfl ?_
        show Steps p.tables e below (T122.setTop (mkF m 141 #[.val (.int p0), .val (.int p1), .val (.int p2), .val (.int p3), .val (.int p4), .val (.int p5), .val (.int (own_min p0 p1)), .val (.int (own_max p0 p1)), .val (.int (own_min p2 p3)), .val (.int (own_max p2 p3)), .val (.ref b102), .val (.int (own_in (own_min p0 p1) (own_min p2 p3) (own_max p0 p1) (own_max p2 p3) p4 p5)), .val (.int (0 : Int32)), .val (.int (own_in (own_min p0 p1) (own_min p2 p3) (own_max p0 p1) (own_max p2 p3) (own_min p0 p1) (own_min p2 p3))), .val (.int (own_in (own_min p0 p1) (own_min p2 p3) (own_max p0 p1) (own_max p2 p3) (own_max p0 p1) (own_max p2 p3))), .val (.int (own_in (own_min p0 p1) (own_min p2 p3) (own_max p0 p1) (own_max p2 p3) (own_min p0 p1) (own_max p2 p3)))] [(.int (own_in (own_min p0 p1) (own_min p2 p3) (own_max p0 p1) (own_max p2 p3) (own_min p0 p1) (own_min p2 p3)))])) _
        refine XS.ifNo X122.here hx rfl (own_hb hby at_141) rfl ((if0 _ _).trans (feq (own_nz (own_in_self _ _ _ _ _ _ (own_irr _) (own_mm p0 p1) (own_irr _) (own_mm p2 p3)))).1) ?_
        show Steps p.tables e below (T122.setTop (mkF m 144 #[.val (.int p0), .val (.int p1), .val (.int p2), .val (.int p3), .val (.int p4), .val (.int p5), .val (.int (own_min p0 p1)), .val (.int (own_max p0 p1)), .val (.int (own_min p2 p3)), .val (.int (own_max p2 p3)), .val (.ref b102), .val (.int (own_in (own_min p0 p1) (own_min p2 p3) (own_max p0 p1) (own_max p2 p3) p4 p5)), .val (.int (0 : Int32)), .val (.int (own_in (own_min p0 p1) (own_min p2 p3) (own_max p0 p1) (own_max p2 p3) (own_min p0 p1) (own_min p2 p3))), .val (.int (own_in (own_min p0 p1) (own_min p2 p3) (own_max p0 p1) (own_max p2 p3) (own_max p0 p1) (own_max p2 p3))), .val (.int (own_in (own_min p0 p1) (own_min p2 p3) (own_max p0 p1) (own_max p2 p3) (own_min p0 p1) (own_max p2 p3)))] [])) _
        refine XS.iload X122.here hx rfl (own_hb hby at_144) rfl ?_
        show Steps p.tables e below (T122.setTop (mkF m 146 #[.val (.int p0), .val (.int p1), .val (.int p2), .val (.int p3), .val (.int p4), .val (.int p5), .val (.int (own_min p0 p1)), .val (.int (own_max p0 p1)), .val (.int (own_min p2 p3)), .val (.int (own_max p2 p3)), .val (.ref b102), .val (.int (own_in (own_min p0 p1) (own_min p2 p3) (own_max p0 p1) (own_max p2 p3) p4 p5)), .val (.int (0 : Int32)), .val (.int (own_in (own_min p0 p1) (own_min p2 p3) (own_max p0 p1) (own_max p2 p3) (own_min p0 p1) (own_min p2 p3))), .val (.int (own_in (own_min p0 p1) (own_min p2 p3) (own_max p0 p1) (own_max p2 p3) (own_max p0 p1) (own_max p2 p3))), .val (.int (own_in (own_min p0 p1) (own_min p2 p3) (own_max p0 p1) (own_max p2 p3) (own_min p0 p1) (own_max p2 p3)))] [(.int (own_in (own_min p0 p1) (own_min p2 p3) (own_max p0 p1) (own_max p2 p3) (own_max p0 p1) (own_max p2 p3)))])) _
        refine XS.ifNo X122.here hx rfl (own_hb hby at_146) rfl ((if0 _ _).trans (feq (own_nz (own_in_self _ _ _ _ _ _ (own_mm p0 p1) (own_irr _) (own_mm p2 p3) (own_irr _)))).1) ?_
        show Steps p.tables e below (T122.setTop (mkF m 149 #[.val (.int p0), .val (.int p1), .val (.int p2), .val (.int p3), .val (.int p4), .val (.int p5), .val (.int (own_min p0 p1)), .val (.int (own_max p0 p1)), .val (.int (own_min p2 p3)), .val (.int (own_max p2 p3)), .val (.ref b102), .val (.int (own_in (own_min p0 p1) (own_min p2 p3) (own_max p0 p1) (own_max p2 p3) p4 p5)), .val (.int (0 : Int32)), .val (.int (own_in (own_min p0 p1) (own_min p2 p3) (own_max p0 p1) (own_max p2 p3) (own_min p0 p1) (own_min p2 p3))), .val (.int (own_in (own_min p0 p1) (own_min p2 p3) (own_max p0 p1) (own_max p2 p3) (own_max p0 p1) (own_max p2 p3))), .val (.int (own_in (own_min p0 p1) (own_min p2 p3) (own_max p0 p1) (own_max p2 p3) (own_min p0 p1) (own_max p2 p3)))] [])) _
        refine XS.iload X122.here hx rfl (own_hb hby at_149) rfl ?_
        show Steps p.tables e below (T122.setTop (mkF m 151 #[.val (.int p0), .val (.int p1), .val (.int p2), .val (.int p3), .val (.int p4), .val (.int p5), .val (.int (own_min p0 p1)), .val (.int (own_max p0 p1)), .val (.int (own_min p2 p3)), .val (.int (own_max p2 p3)), .val (.ref b102), .val (.int (own_in (own_min p0 p1) (own_min p2 p3) (own_max p0 p1) (own_max p2 p3) p4 p5)), .val (.int (0 : Int32)), .val (.int (own_in (own_min p0 p1) (own_min p2 p3) (own_max p0 p1) (own_max p2 p3) (own_min p0 p1) (own_min p2 p3))), .val (.int (own_in (own_min p0 p1) (own_min p2 p3) (own_max p0 p1) (own_max p2 p3) (own_max p0 p1) (own_max p2 p3))), .val (.int (own_in (own_min p0 p1) (own_min p2 p3) (own_max p0 p1) (own_max p2 p3) (own_min p0 p1) (own_max p2 p3)))] [(.int (own_in (own_min p0 p1) (own_min p2 p3) (own_max p0 p1) (own_max p2 p3) (own_min p0 p1) (own_max p2 p3)))])) _
        refine XS.ifNo X122.here hx rfl (own_hb hby at_151) rfl ((if0 _ _).trans (feq (own_nz (own_in_self _ _ _ _ _ _ (own_irr _) (own_mm p0 p1) (own_mm p2 p3) (own_irr _)))).1) ?_
        show Steps p.tables e below (T122.setTop (mkF m 154 #[.val (.int p0), .val (.int p1), .val (.int p2), .val (.int p3), .val (.int p4), .val (.int p5), .val (.int (own_min p0 p1)), .val (.int (own_max p0 p1)), .val (.int (own_min p2 p3)), .val (.int (own_max p2 p3)), .val (.ref b102), .val (.int (own_in (own_min p0 p1) (own_min p2 p3) (own_max p0 p1) (own_max p2 p3) p4 p5)), .val (.int (0 : Int32)), .val (.int (own_in (own_min p0 p1) (own_min p2 p3) (own_max p0 p1) (own_max p2 p3) (own_min p0 p1) (own_min p2 p3))), .val (.int (own_in (own_min p0 p1) (own_min p2 p3) (own_max p0 p1) (own_max p2 p3) (own_max p0 p1) (own_max p2 p3))), .val (.int (own_in (own_min p0 p1) (own_min p2 p3) (own_max p0 p1) (own_max p2 p3) (own_min p0 p1) (own_max p2 p3)))] [])) _
        refine XS.iconst X122.here hx rfl (own_hb hby at_154) ?_
        show Steps p.tables e below (T122.setTop (mkF m 155 #[.val (.int p0), .val (.int p1), .val (.int p2), .val (.int p3), .val (.int p4), .val (.int p5), .val (.int (own_min p0 p1)), .val (.int (own_max p0 p1)), .val (.int (own_min p2 p3)), .val (.int (own_max p2 p3)), .val (.ref b102), .val (.int (own_in (own_min p0 p1) (own_min p2 p3) (own_max p0 p1) (own_max p2 p3) p4 p5)), .val (.int (0 : Int32)), .val (.int (own_in (own_min p0 p1) (own_min p2 p3) (own_max p0 p1) (own_max p2 p3) (own_min p0 p1) (own_min p2 p3))), .val (.int (own_in (own_min p0 p1) (own_min p2 p3) (own_max p0 p1) (own_max p2 p3) (own_max p0 p1) (own_max p2 p3))), .val (.int (own_in (own_min p0 p1) (own_min p2 p3) (own_max p0 p1) (own_max p2 p3) (own_min p0 p1) (own_max p2 p3)))] [(.int (1 : Int32))])) _
        refine XS.goto X122.here hx rfl (pc0 := 155) (pc' := 159) rfl (own_hb hby at_155) (by decide) (by decide) ?_
        exact kt
      exact own_retNW (vm0 := T109.vm) X122 hS109 (Nat.le_refl _) hx hlk (t := .boolean) hret (by simp) (own_hb hby at_159) hh122 ⟨rfl, N122⟩ (by decide) (by decide)
    · skip
      refine own_Go.of (S' := (T118.setTop (mkF m 101 #[.val (.int p0), .val (.int p1), .val (.int p2), .val (.int p3), .val (.int p4), .val (.int p5), .val (.int (own_min p0 p1)), .val (.int (own_max p0 p1)), .val (.int (own_min p2 p3)), .val (.int (own_max p2 p3)), .val (.ref b102), .val (.int (own_in (own_min p0 p1) (own_min p2 p3) (own_max p0 p1) (own_max p2 p3) p4 p5)), .val (.int (1 : Int32)), .unset, .unset, .unset] [(.double (FP.i2d (own_min p2 p3))), (.double (FP.i2d (own_min p0 p1))), (.ref b102)]))) (fun t kt => ?_) ?_
      · show Steps p.tables e below (T118.setTop (mkF m 83 #[.val (.int p0), .val (.int p1), .val (.int p2), .val (.int p3), .val (.int p4), .val (.int p5), .val (.int (own_min p0 p1)), .val (.int (own_max p0 p1)), .val (.int (own_min p2 p3)), .val (.int (own_max p2 p3)), .val (.ref b102), .val (.int (own_in (own_min p0 p1) (own_min p2 p3) (own_max p0 p1) (own_max p2 p3) p4 p5)), .unset, .unset, .unset, .unset] [(.int (own_cl p5 (own_min p2 p3) (own_max p2 p3)))])) _
        refine XS.ifNo X118.here hx rfl (own_hb hby at_83) rfl ((if0 _ _).trans (feq hc83_119).1) ?_
        show Steps p.tables e below (T118.setTop (mkF m 86 #[.val (.int p0), .val (.int p1), .val (.int p2), .val (.int p3), .val (.int p4), .val (.int p5), .val (.int (own_min p0 p1)), .val (.int (own_max p0 p1)), .val (.int (own_min p2 p3)), .val (.int (own_max p2 p3)), .val (.ref b102), .val (.int (own_in (own_min p0 p1) (own_min p2 p3) (own_max p0 p1) (own_max p2 p3) p4 p5)), .unset, .unset, .unset, .unset] [])) _
        refine XS.iconst X118.here hx rfl (own_hb hby at_86) ?_
        show Steps p.tables e below (T118.setTop (mkF m 87 #[.val (.int p0), .val (.int p1), .val (.int p2), .val (.int p3), .val (.int p4), .val (.int p5), .val (.int (own_min p0 p1)), .val (.int (own_max p0 p1)), .val (.int (own_min p2 p3)), .val (.int (own_max p2 p3)), .val (.ref b102), .val (.int (own_in (own_min p0 p1) (own_min p2 p3) (own_max p0 p1) (own_max p2 p3) p4 p5)), .unset, .unset, .unset, .unset] [(.int (1 : Int32))])) _
        refine XS.goto X118.here hx rfl (pc0 := 87) (pc' := 91) rfl (own_hb hby at_87) (by decide) (by decide) ?_
        show Steps p.tables e below (T118.setTop (mkF m 91 #[.val (.int p0), .val (.int p1), .val (.int p2), .val (.int p3), .val (.int p4), .val (.int p5), .val (.int (own_min p0 p1)), .val (.int (own_max p0 p1)), .val (.int (own_min p2 p3)), .val (.int (own_max p2 p3)), .val (.ref b102), .val (.int (own_in (own_min p0 p1) (own_min p2 p3) (own_max p0 p1) (own_max p2 p3) p4 p5)), .unset, .unset, .unset, .unset] [(.int (1 : Int32))])) _
        refine XS.istore X118.here hx rfl (own_hb hby at_91) rfl (l' := #[.val (.int p0), .val (.int p1), .val (.int p2), .val (.int p3), .val (.int p4), .val (.int p5), .val (.int (own_min p0 p1)), .val (.int (own_max p0 p1)), .val (.int (own_min p2 p3)), .val (.int (own_max p2 p3)), .val (.ref b102), .val (.int (own_in (own_min p0 p1) (own_min p2 p3) (own_max p0 p1) (own_max p2 p3) p4 p5)), .val (.int (1 : Int32)), .unset, .unset, .unset]) rfl ?_
        show Steps p.tables e below (T118.setTop (mkF m 93 #[.val (.int p0), .val (.int p1), .val (.int p2), .val (.int p3), .val (.int p4), .val (.int p5), .val (.int (own_min p0 p1)), .val (.int (own_max p0 p1)), .val (.int (own_min p2 p3)), .val (.int (own_max p2 p3)), .val (.ref b102), .val (.int (own_in (own_min p0 p1) (own_min p2 p3) (own_max p0 p1) (own_max p2 p3) p4 p5)), .val (.int (1 : Int32)), .unset, .unset, .unset] [])) _
        refine XS.aload X118.here hx rfl (own_hb hby at_93) rfl rfl ?_
        show Steps p.tables e below (T118.setTop (mkF m 95 #[.val (.int p0), .val (.int p1), .val (.int p2), .val (.int p3), .val (.int p4), .val (.int p5), .val (.int (own_min p0 p1)), .val (.int (own_max p0 p1)), .val (.int (own_min p2 p3)), .val (.int (own_max p2 p3)), .val (.ref b102), .val (.int (own_in (own_min p0 p1) (own_min p2 p3) (own_max p0 p1) (own_max p2 p3) p4 p5)), .val (.int (1 : Int32)), .unset, .unset, .unset] [(.ref b102)])) _
        refine XS.iload X118.here hx rfl (own_hb hby at_95) rfl ?_
        show Steps p.tables e below (T118.setTop (mkF m 97 #[.val (.int p0), .val (.int p1), .val (.int p2), .val (.int p3), .val (.int p4), .val (.int p5), .val (.int (own_min p0 p1)), .val (.int (own_max p0 p1)), .val (.int (own_min p2 p3)), .val (.int (own_max p2 p3)), .val (.ref b102), .val (.int (own_in (own_min p0 p1) (own_min p2 p3) (own_max p0 p1) (own_max p2 p3) p4 p5)), .val (.int (1 : Int32)), .unset, .unset, .unset] [(.int (own_min p0 p1)), (.ref b102)])) _
        refine own_i2d X118.here hx rfl (own_hb hby at_97) rfl ?_
        show Steps p.tables e below (T118.setTop (mkF m 98 #[.val (.int p0), .val (.int p1), .val (.int p2), .val (.int p3), .val (.int p4), .val (.int p5), .val (.int (own_min p0 p1)), .val (.int (own_max p0 p1)), .val (.int (own_min p2 p3)), .val (.int (own_max p2 p3)), .val (.ref b102), .val (.int (own_in (own_min p0 p1) (own_min p2 p3) (own_max p0 p1) (own_max p2 p3) p4 p5)), .val (.int (1 : Int32)), .unset, .unset, .unset] [(.double (FP.i2d (own_min p0 p1))), (.ref b102)])) _
        refine XS.iload X118.here hx rfl (own_hb hby at_98) rfl ?_
        show Steps p.tables e below (T118.setTop (mkF m 100 #[.val (.int p0), .val (.int p1), .val (.int p2), .val (.int p3), .val (.int p4), .val (.int p5), .val (.int (own_min p0 p1)), .val (.int (own_max p0 p1)), .val (.int (own_min p2 p3)), .val (.int (own_max p2 p3)), .val (.ref b102), .val (.int (own_in (own_min p0 p1) (own_min p2 p3) (own_max p0 p1) (own_max p2 p3) p4 p5)), .val (.int (1 : Int32)), .unset, .unset, .unset] [(.int (own_min p2 p3)), (.double (FP.i2d (own_min p0 p1))), (.ref b102)])) _
        refine own_i2d X118.here hx rfl (own_hb hby at_100) rfl ?_
        exact kt
      obtain ⟨cq123, kq123, q123a, q123b, q123c⟩ := isOf hZ hh118 p109_0
      obtain ⟨_, _, ⟨T123, L123, k123, n123⟩, -, X123, ⟨Lc123, hQ123, l123, y123, z123⟩, st123⟩ := X118.virtualBack hx (y := (⟨"com/example/sagasu/sagasu/Extent", "contains", "(DD)Z"⟩ : MethodName)) (z := (⟨"com/example/sagasu/sagasu/Extent", "contains", "(DD)Z"⟩ : MethodName)) hown (mvT hZ (hw _ (List.mem_of_getElem? (i := 47) rfl))) (mvT hZ (hw _ (List.mem_of_getElem? (i := 48) rfl))) (notFace_of_selects (args := #[]) (mvT hZ (hw _ (List.mem_of_getElem? (i := 50) rfl)))) (mvT hZ (hw _ (List.mem_of_getElem? (i := 50) rfl))) (mvT hZ (hw _ (List.mem_of_getElem? (i := 49) rfl))) (by decide) (backOf (W := 0) (rm8 l Z a0 hw [] b102 (own_min p0 p1) (own_min p2 p3) (own_min p0 p1) (own_min p2 p3) (own_max p0 p1) (own_max p2 p3) T109.heap n0 z111 p109_1 p109_2 p109_3 p109_4) hZ (hw _ (List.mem_of_getElem? (i := 51) rfl)) (hw _ (List.mem_of_getElem? (i := 9) rfl)) (by decide) (by decide)) q123a q123c (g := (mkF m 101 #[.val (.int p0), .val (.int p1), .val (.int p2), .val (.int p3), .val (.int p4), .val (.int p5), .val (.int (own_min p0 p1)), .val (.int (own_max p0 p1)), .val (.int (own_min p2 p3)), .val (.int (own_max p2 p3)), .val (.ref b102), .val (.int (own_in (own_min p0 p1) (own_min p2 p3) (own_max p0 p1) (own_max p2 p3) p4 p5)), .val (.int (1 : Int32)), .unset, .unset, .unset] [(.double (FP.i2d (own_min p2 p3))), (.double (FP.i2d (own_min p0 p1))), (.ref b102)])) rfl (by rw [hml]; rfl) (Steps.refl _) (argsL := [(.double (FP.i2d (own_min p0 p1))), (.double (FP.i2d (own_min p2 p3)))]) (rest := []) (lenOf pd_4 rfl) rfl (by show 2 * 0 + _ ≤ _; exact Nat.le_of_eq rfl) (own_hb hby at_101) (fun _ _ => ⟨rfl, hh118, (by decide : 9 + 0 ≤ _), (by decide : 164 + 0 ≤ _)⟩)
      dsimp only [Pt.U, Pt.locs, Pt.cells, Pt.slots] at X123 l123 y123 z123 st123 hQ123
      subst l123 y123 z123
      obtain ⟨rfl, N123q, hh123⟩ := hQ123
      have N123 := Fr.app N118 N123q
      refine own_Go.of (S' := (T123.setTop (mkF m 104 #[.val (.int p0), .val (.int p1), .val (.int p2), .val (.int p3), .val (.int p4), .val (.int p5), .val (.int (own_min p0 p1)), .val (.int (own_max p0 p1)), .val (.int (own_min p2 p3)), .val (.int (own_max p2 p3)), .val (.ref b102), .val (.int (own_in (own_min p0 p1) (own_min p2 p3) (own_max p0 p1) (own_max p2 p3) p4 p5)), .val (.int (1 : Int32)), .unset, .unset, .unset] [(.int (own_in (own_min p0 p1) (own_min p2 p3) (own_max p0 p1) (own_max p2 p3) (own_min p0 p1) (own_min p2 p3)))]))) (fun t kt => st123.trans kt) ?_
      refine own_Go.of (S' := (T123.setTop (mkF m 114 #[.val (.int p0), .val (.int p1), .val (.int p2), .val (.int p3), .val (.int p4), .val (.int p5), .val (.int (own_min p0 p1)), .val (.int (own_max p0 p1)), .val (.int (own_min p2 p3)), .val (.int (own_max p2 p3)), .val (.ref b102), .val (.int (own_in (own_min p0 p1) (own_min p2 p3) (own_max p0 p1) (own_max p2 p3) p4 p5)), .val (.int (1 : Int32)), .val (.int (own_in (own_min p0 p1) (own_min p2 p3) (own_max p0 p1) (own_max p2 p3) (own_min p0 p1) (own_min p2 p3))), .unset, .unset] [(.double (FP.i2d (own_max p2 p3))), (.double (FP.i2d (own_max p0 p1))), (.ref b102)]))) (fun t kt => ?_) ?_
      · show Steps p.tables e below (T123.setTop (mkF m 104 #[.val (.int p0), .val (.int p1), .val (.int p2), .val (.int p3), .val (.int p4), .val (.int p5), .val (.int (own_min p0 p1)), .val (.int (own_max p0 p1)), .val (.int (own_min p2 p3)), .val (.int (own_max p2 p3)), .val (.ref b102), .val (.int (own_in (own_min p0 p1) (own_min p2 p3) (own_max p0 p1) (own_max p2 p3) p4 p5)), .val (.int (1 : Int32)), .unset, .unset, .unset] [(.int (own_in (own_min p0 p1) (own_min p2 p3) (own_max p0 p1) (own_max p2 p3) (own_min p0 p1) (own_min p2 p3)))])) _
        refine XS.istore X123.here hx rfl (own_hb hby at_104) rfl (l' := #[.val (.int p0), .val (.int p1), .val (.int p2), .val (.int p3), .val (.int p4), .val (.int p5), .val (.int (own_min p0 p1)), .val (.int (own_max p0 p1)), .val (.int (own_min p2 p3)), .val (.int (own_max p2 p3)), .val (.ref b102), .val (.int (own_in (own_min p0 p1) (own_min p2 p3) (own_max p0 p1) (own_max p2 p3) p4 p5)), .val (.int (1 : Int32)), .val (.int (own_in (own_min p0 p1) (own_min p2 p3) (own_max p0 p1) (own_max p2 p3) (own_min p0 p1) (own_min p2 p3))), .unset, .unset]) rfl ?_
        show Steps p.tables e below (T123.setTop (mkF m 106 #[.val (.int p0), .val (.int p1), .val (.int p2), .val (.int p3), .val (.int p4), .val (.int p5), .val (.int (own_min p0 p1)), .val (.int (own_max p0 p1)), .val (.int (own_min p2 p3)), .val (.int (own_max p2 p3)), .val (.ref b102), .val (.int (own_in (own_min p0 p1) (own_min p2 p3) (own_max p0 p1) (own_max p2 p3) p4 p5)), .val (.int (1 : Int32)), .val (.int (own_in (own_min p0 p1) (own_min p2 p3) (own_max p0 p1) (own_max p2 p3) (own_min p0 p1) (own_min p2 p3))), .unset, .unset] [])) _
        refine XS.aload X123.here hx rfl (own_hb hby at_106) rfl rfl ?_
        show Steps p.tables e below (T123.setTop (mkF m 108 #[.val (.int p0), .val (.int p1), .val (.int p2), .val (.int p3), .val (.int p4), .val (.int p5), .val (.int (own_min p0 p1)), .val (.int (own_max p0 p1)), .val (.int (own_min p2 p3)), .val (.int (own_max p2 p3)), .val (.ref b102), .val (.int (own_in (own_min p0 p1) (own_min p2 p3) (own_max p0 p1) (own_max p2 p3) p4 p5)), .val (.int (1 : Int32)), .val (.int (own_in (own_min p0 p1) (own_min p2 p3) (own_max p0 p1) (own_max p2 p3) (own_min p0 p1) (own_min p2 p3))), .unset, .unset] [(.ref b102)])) _
        refine XS.iload X123.here hx rfl (own_hb hby at_108) rfl ?_
        show Steps p.tables e below (T123.setTop (mkF m 110 #[.val (.int p0), .val (.int p1), .val (.int p2), .val (.int p3), .val (.int p4), .val (.int p5), .val (.int (own_min p0 p1)), .val (.int (own_max p0 p1)), .val (.int (own_min p2 p3)), .val (.int (own_max p2 p3)), .val (.ref b102), .val (.int (own_in (own_min p0 p1) (own_min p2 p3) (own_max p0 p1) (own_max p2 p3) p4 p5)), .val (.int (1 : Int32)), .val (.int (own_in (own_min p0 p1) (own_min p2 p3) (own_max p0 p1) (own_max p2 p3) (own_min p0 p1) (own_min p2 p3))), .unset, .unset] [(.int (own_max p0 p1)), (.ref b102)])) _
        refine own_i2d X123.here hx rfl (own_hb hby at_110) rfl ?_
        show Steps p.tables e below (T123.setTop (mkF m 111 #[.val (.int p0), .val (.int p1), .val (.int p2), .val (.int p3), .val (.int p4), .val (.int p5), .val (.int (own_min p0 p1)), .val (.int (own_max p0 p1)), .val (.int (own_min p2 p3)), .val (.int (own_max p2 p3)), .val (.ref b102), .val (.int (own_in (own_min p0 p1) (own_min p2 p3) (own_max p0 p1) (own_max p2 p3) p4 p5)), .val (.int (1 : Int32)), .val (.int (own_in (own_min p0 p1) (own_min p2 p3) (own_max p0 p1) (own_max p2 p3) (own_min p0 p1) (own_min p2 p3))), .unset, .unset] [(.double (FP.i2d (own_max p0 p1))), (.ref b102)])) _
        refine XS.iload X123.here hx rfl (own_hb hby at_111) rfl ?_
        show Steps p.tables e below (T123.setTop (mkF m 113 #[.val (.int p0), .val (.int p1), .val (.int p2), .val (.int p3), .val (.int p4), .val (.int p5), .val (.int (own_min p0 p1)), .val (.int (own_max p0 p1)), .val (.int (own_min p2 p3)), .val (.int (own_max p2 p3)), .val (.ref b102), .val (.int (own_in (own_min p0 p1) (own_min p2 p3) (own_max p0 p1) (own_max p2 p3) p4 p5)), .val (.int (1 : Int32)), .val (.int (own_in (own_min p0 p1) (own_min p2 p3) (own_max p0 p1) (own_max p2 p3) (own_min p0 p1) (own_min p2 p3))), .unset, .unset] [(.int (own_max p2 p3)), (.double (FP.i2d (own_max p0 p1))), (.ref b102)])) _
        refine own_i2d X123.here hx rfl (own_hb hby at_113) rfl ?_
        exact kt
      obtain ⟨cq124, kq124, q124a, q124b, q124c⟩ := isOf hZ hh123 p109_0
      obtain ⟨_, _, ⟨T124, L124, k124, n124⟩, -, X124, ⟨Lc124, hQ124, l124, y124, z124⟩, st124⟩ := X123.virtualBack hx (y := (⟨"com/example/sagasu/sagasu/Extent", "contains", "(DD)Z"⟩ : MethodName)) (z := (⟨"com/example/sagasu/sagasu/Extent", "contains", "(DD)Z"⟩ : MethodName)) hown (mvT hZ (hw _ (List.mem_of_getElem? (i := 47) rfl))) (mvT hZ (hw _ (List.mem_of_getElem? (i := 48) rfl))) (notFace_of_selects (args := #[]) (mvT hZ (hw _ (List.mem_of_getElem? (i := 50) rfl)))) (mvT hZ (hw _ (List.mem_of_getElem? (i := 50) rfl))) (mvT hZ (hw _ (List.mem_of_getElem? (i := 49) rfl))) (by decide) (backOf (W := 0) (rm8 l Z a0 hw [] b102 (own_max p0 p1) (own_max p2 p3) (own_min p0 p1) (own_min p2 p3) (own_max p0 p1) (own_max p2 p3) T109.heap n0 z111 p109_1 p109_2 p109_3 p109_4) hZ (hw _ (List.mem_of_getElem? (i := 51) rfl)) (hw _ (List.mem_of_getElem? (i := 9) rfl)) (by decide) (by decide)) q124a q124c (g := (mkF m 114 #[.val (.int p0), .val (.int p1), .val (.int p2), .val (.int p3), .val (.int p4), .val (.int p5), .val (.int (own_min p0 p1)), .val (.int (own_max p0 p1)), .val (.int (own_min p2 p3)), .val (.int (own_max p2 p3)), .val (.ref b102), .val (.int (own_in (own_min p0 p1) (own_min p2 p3) (own_max p0 p1) (own_max p2 p3) p4 p5)), .val (.int (1 : Int32)), .val (.int (own_in (own_min p0 p1) (own_min p2 p3) (own_max p0 p1) (own_max p2 p3) (own_min p0 p1) (own_min p2 p3))), .unset, .unset] [(.double (FP.i2d (own_max p2 p3))), (.double (FP.i2d (own_max p0 p1))), (.ref b102)])) rfl (by rw [hml]; rfl) (Steps.refl _) (argsL := [(.double (FP.i2d (own_max p0 p1))), (.double (FP.i2d (own_max p2 p3)))]) (rest := []) (lenOf pd_4 rfl) rfl (by show 2 * 0 + _ ≤ _; exact Nat.le_of_eq rfl) (own_hb hby at_114) (fun _ _ => ⟨rfl, hh123, (by decide : 9 + 0 ≤ _), (by decide : 164 + 0 ≤ _)⟩)
      dsimp only [Pt.U, Pt.locs, Pt.cells, Pt.slots] at X124 l124 y124 z124 st124 hQ124
      subst l124 y124 z124
      obtain ⟨rfl, N124q, hh124⟩ := hQ124
      have N124 := Fr.app N123 N124q
      refine own_Go.of (S' := (T124.setTop (mkF m 117 #[.val (.int p0), .val (.int p1), .val (.int p2), .val (.int p3), .val (.int p4), .val (.int p5), .val (.int (own_min p0 p1)), .val (.int (own_max p0 p1)), .val (.int (own_min p2 p3)), .val (.int (own_max p2 p3)), .val (.ref b102), .val (.int (own_in (own_min p0 p1) (own_min p2 p3) (own_max p0 p1) (own_max p2 p3) p4 p5)), .val (.int (1 : Int32)), .val (.int (own_in (own_min p0 p1) (own_min p2 p3) (own_max p0 p1) (own_max p2 p3) (own_min p0 p1) (own_min p2 p3))), .unset, .unset] [(.int (own_in (own_min p0 p1) (own_min p2 p3) (own_max p0 p1) (own_max p2 p3) (own_max p0 p1) (own_max p2 p3)))]))) (fun t kt => st124.trans kt) ?_
      refine own_Go.of (S' := (T124.setTop (mkF m 127 #[.val (.int p0), .val (.int p1), .val (.int p2), .val (.int p3), .val (.int p4), .val (.int p5), .val (.int (own_min p0 p1)), .val (.int (own_max p0 p1)), .val (.int (own_min p2 p3)), .val (.int (own_max p2 p3)), .val (.ref b102), .val (.int (own_in (own_min p0 p1) (own_min p2 p3) (own_max p0 p1) (own_max p2 p3) p4 p5)), .val (.int (1 : Int32)), .val (.int (own_in (own_min p0 p1) (own_min p2 p3) (own_max p0 p1) (own_max p2 p3) (own_min p0 p1) (own_min p2 p3))), .val (.int (own_in (own_min p0 p1) (own_min p2 p3) (own_max p0 p1) (own_max p2 p3) (own_max p0 p1) (own_max p2 p3))), .unset] [(.double (FP.i2d (own_max p2 p3))), (.double (FP.i2d (own_min p0 p1))), (.ref b102)]))) (fun t kt => ?_) ?_
      · show Steps p.tables e below (T124.setTop (mkF m 117 #[.val (.int p0), .val (.int p1), .val (.int p2), .val (.int p3), .val (.int p4), .val (.int p5), .val (.int (own_min p0 p1)), .val (.int (own_max p0 p1)), .val (.int (own_min p2 p3)), .val (.int (own_max p2 p3)), .val (.ref b102), .val (.int (own_in (own_min p0 p1) (own_min p2 p3) (own_max p0 p1) (own_max p2 p3) p4 p5)), .val (.int (1 : Int32)), .val (.int (own_in (own_min p0 p1) (own_min p2 p3) (own_max p0 p1) (own_max p2 p3) (own_min p0 p1) (own_min p2 p3))), .unset, .unset] [(.int (own_in (own_min p0 p1) (own_min p2 p3) (own_max p0 p1) (own_max p2 p3) (own_max p0 p1) (own_max p2 p3)))])) _
        refine XS.istore X124.here hx rfl (own_hb hby at_117) rfl (l' := #[.val (.int p0), .val (.int p1), .val (.int p2), .val (.int p3), .val (.int p4), .val (.int p5), .val (.int (own_min p0 p1)), .val (.int (own_max p0 p1)), .val (.int (own_min p2 p3)), .val (.int (own_max p2 p3)), .val (.ref b102), .val (.int (own_in (own_min p0 p1) (own_min p2 p3) (own_max p0 p1) (own_max p2 p3) p4 p5)), .val (.int (1 : Int32)), .val (.int (own_in (own_min p0 p1) (own_min p2 p3) (own_max p0 p1) (own_max p2 p3) (own_min p0 p1) (own_min p2 p3))), .val (.int (own_in (own_min p0 p1) (own_min p2 p3) (own_max p0 p1) (own_max p2 p3) (own_max p0 p1) (own_max p2 p3))), .unset]) rfl ?_
        show Steps p.tables e below (T124.setTop (mkF m 119 #[.val (.int p0), .val (.int p1), .val (.int p2), .val (.int p3), .val (.int p4), .val (.int p5), .val (.int (own_min p0 p1)), .val (.int (own_max p0 p1)), .val (.int (own_min p2 p3)), .val (.int (own_max p2 p3)), .val (.ref b102), .val (.int (own_in (own_min p0 p1) (own_min p2 p3) (own_max p0 p1) (own_max p2 p3) p4 p5)), .val (.int (1 : Int32)), .val (.int (own_in (own_min p0 p1) (own_min p2 p3) (own_max p0 p1) (own_max p2 p3) (own_min p0 p1) (own_min p2 p3))), .val (.int (own_in (own_min p0 p1) (own_min p2 p3) (own_max p0 p1) (own_max p2 p3) (own_max p0 p1) (own_max p2 p3))), .unset] [])) _
        refine XS.aload X124.here hx rfl (own_hb hby at_119) rfl rfl ?_
        show Steps p.tables e below (T124.setTop (mkF m 121 #[.val (.int p0), .val (.int p1), .val (.int p2), .val (.int p3), .val (.int p4), .val (.int p5), .val (.int (own_min p0 p1)), .val (.int (own_max p0 p1)), .val (.int (own_min p2 p3)), .val (.int (own_max p2 p3)), .val (.ref b102), .val (.int (own_in (own_min p0 p1) (own_min p2 p3) (own_max p0 p1) (own_max p2 p3) p4 p5)), .val (.int (1 : Int32)), .val (.int (own_in (own_min p0 p1) (own_min p2 p3) (own_max p0 p1) (own_max p2 p3) (own_min p0 p1) (own_min p2 p3))), .val (.int (own_in (own_min p0 p1) (own_min p2 p3) (own_max p0 p1) (own_max p2 p3) (own_max p0 p1) (own_max p2 p3))), .unset] [(.ref b102)])) _
        refine XS.iload X124.here hx rfl (own_hb hby at_121) rfl ?_
        show Steps p.tables e below (T124.setTop (mkF m 123 #[.val (.int p0), .val (.int p1), .val (.int p2), .val (.int p3), .val (.int p4), .val (.int p5), .val (.int (own_min p0 p1)), .val (.int (own_max p0 p1)), .val (.int (own_min p2 p3)), .val (.int (own_max p2 p3)), .val (.ref b102), .val (.int (own_in (own_min p0 p1) (own_min p2 p3) (own_max p0 p1) (own_max p2 p3) p4 p5)), .val (.int (1 : Int32)), .val (.int (own_in (own_min p0 p1) (own_min p2 p3) (own_max p0 p1) (own_max p2 p3) (own_min p0 p1) (own_min p2 p3))), .val (.int (own_in (own_min p0 p1) (own_min p2 p3) (own_max p0 p1) (own_max p2 p3) (own_max p0 p1) (own_max p2 p3))), .unset] [(.int (own_min p0 p1)), (.ref b102)])) _
        refine own_i2d X124.here hx rfl (own_hb hby at_123) rfl ?_
        show Steps p.tables e below (T124.setTop (mkF m 124 #[.val (.int p0), .val (.int p1), .val (.int p2), .val (.int p3), .val (.int p4), .val (.int p5), .val (.int (own_min p0 p1)), .val (.int (own_max p0 p1)), .val (.int (own_min p2 p3)), .val (.int (own_max p2 p3)), .val (.ref b102), .val (.int (own_in (own_min p0 p1) (own_min p2 p3) (own_max p0 p1) (own_max p2 p3) p4 p5)), .val (.int (1 : Int32)), .val (.int (own_in (own_min p0 p1) (own_min p2 p3) (own_max p0 p1) (own_max p2 p3) (own_min p0 p1) (own_min p2 p3))), .val (.int (own_in (own_min p0 p1) (own_min p2 p3) (own_max p0 p1) (own_max p2 p3) (own_max p0 p1) (own_max p2 p3))), .unset] [(.double (FP.i2d (own_min p0 p1))), (.ref b102)])) _
        refine XS.iload X124.here hx rfl (own_hb hby at_124) rfl ?_
        show Steps p.tables e below (T124.setTop (mkF m 126 #[.val (.int p0), .val (.int p1), .val (.int p2), .val (.int p3), .val (.int p4), .val (.int p5), .val (.int (own_min p0 p1)), .val (.int (own_max p0 p1)), .val (.int (own_min p2 p3)), .val (.int (own_max p2 p3)), .val (.ref b102), .val (.int (own_in (own_min p0 p1) (own_min p2 p3) (own_max p0 p1) (own_max p2 p3) p4 p5)), .val (.int (1 : Int32)), .val (.int (own_in (own_min p0 p1) (own_min p2 p3) (own_max p0 p1) (own_max p2 p3) (own_min p0 p1) (own_min p2 p3))), .val (.int (own_in (own_min p0 p1) (own_min p2 p3) (own_max p0 p1) (own_max p2 p3) (own_max p0 p1) (own_max p2 p3))), .unset] [(.int (own_max p2 p3)), (.double (FP.i2d (own_min p0 p1))), (.ref b102)])) _
        refine own_i2d X124.here hx rfl (own_hb hby at_126) rfl ?_
        exact kt
      obtain ⟨cq125, kq125, q125a, q125b, q125c⟩ := isOf hZ hh124 p109_0
      obtain ⟨_, _, ⟨T125, L125, k125, n125⟩, -, X125, ⟨Lc125, hQ125, l125, y125, z125⟩, st125⟩ := X124.virtualBack hx (y := (⟨"com/example/sagasu/sagasu/Extent", "contains", "(DD)Z"⟩ : MethodName)) (z := (⟨"com/example/sagasu/sagasu/Extent", "contains", "(DD)Z"⟩ : MethodName)) hown (mvT hZ (hw _ (List.mem_of_getElem? (i := 47) rfl))) (mvT hZ (hw _ (List.mem_of_getElem? (i := 48) rfl))) (notFace_of_selects (args := #[]) (mvT hZ (hw _ (List.mem_of_getElem? (i := 50) rfl)))) (mvT hZ (hw _ (List.mem_of_getElem? (i := 50) rfl))) (mvT hZ (hw _ (List.mem_of_getElem? (i := 49) rfl))) (by decide) (backOf (W := 0) (rm8 l Z a0 hw [] b102 (own_min p0 p1) (own_max p2 p3) (own_min p0 p1) (own_min p2 p3) (own_max p0 p1) (own_max p2 p3) T109.heap n0 z111 p109_1 p109_2 p109_3 p109_4) hZ (hw _ (List.mem_of_getElem? (i := 51) rfl)) (hw _ (List.mem_of_getElem? (i := 9) rfl)) (by decide) (by decide)) q125a q125c (g := (mkF m 127 #[.val (.int p0), .val (.int p1), .val (.int p2), .val (.int p3), .val (.int p4), .val (.int p5), .val (.int (own_min p0 p1)), .val (.int (own_max p0 p1)), .val (.int (own_min p2 p3)), .val (.int (own_max p2 p3)), .val (.ref b102), .val (.int (own_in (own_min p0 p1) (own_min p2 p3) (own_max p0 p1) (own_max p2 p3) p4 p5)), .val (.int (1 : Int32)), .val (.int (own_in (own_min p0 p1) (own_min p2 p3) (own_max p0 p1) (own_max p2 p3) (own_min p0 p1) (own_min p2 p3))), .val (.int (own_in (own_min p0 p1) (own_min p2 p3) (own_max p0 p1) (own_max p2 p3) (own_max p0 p1) (own_max p2 p3))), .unset] [(.double (FP.i2d (own_max p2 p3))), (.double (FP.i2d (own_min p0 p1))), (.ref b102)])) rfl (by rw [hml]; rfl) (Steps.refl _) (argsL := [(.double (FP.i2d (own_min p0 p1))), (.double (FP.i2d (own_max p2 p3)))]) (rest := []) (lenOf pd_4 rfl) rfl (by show 2 * 0 + _ ≤ _; exact Nat.le_of_eq rfl) (own_hb hby at_127) (fun _ _ => ⟨rfl, hh124, (by decide : 9 + 0 ≤ _), (by decide : 164 + 0 ≤ _)⟩)
      dsimp only [Pt.U, Pt.locs, Pt.cells, Pt.slots] at X125 l125 y125 z125 st125 hQ125
      subst l125 y125 z125
      obtain ⟨rfl, N125q, hh125⟩ := hQ125
      have N125 := Fr.app N124 N125q
      refine own_Go.of (S' := (T125.setTop (mkF m 130 #[.val (.int p0), .val (.int p1), .val (.int p2), .val (.int p3), .val (.int p4), .val (.int p5), .val (.int (own_min p0 p1)), .val (.int (own_max p0 p1)), .val (.int (own_min p2 p3)), .val (.int (own_max p2 p3)), .val (.ref b102), .val (.int (own_in (own_min p0 p1) (own_min p2 p3) (own_max p0 p1) (own_max p2 p3) p4 p5)), .val (.int (1 : Int32)), .val (.int (own_in (own_min p0 p1) (own_min p2 p3) (own_max p0 p1) (own_max p2 p3) (own_min p0 p1) (own_min p2 p3))), .val (.int (own_in (own_min p0 p1) (own_min p2 p3) (own_max p0 p1) (own_max p2 p3) (own_max p0 p1) (own_max p2 p3))), .unset] [(.int (own_in (own_min p0 p1) (own_min p2 p3) (own_max p0 p1) (own_max p2 p3) (own_min p0 p1) (own_max p2 p3)))]))) (fun t kt => st125.trans kt) ?_
      refine own_Go.of (S' := (T125.setTop (mkF m 159 #[.val (.int p0), .val (.int p1), .val (.int p2), .val (.int p3), .val (.int p4), .val (.int p5), .val (.int (own_min p0 p1)), .val (.int (own_max p0 p1)), .val (.int (own_min p2 p3)), .val (.int (own_max p2 p3)), .val (.ref b102), .val (.int (own_in (own_min p0 p1) (own_min p2 p3) (own_max p0 p1) (own_max p2 p3) p4 p5)), .val (.int (1 : Int32)), .val (.int (own_in (own_min p0 p1) (own_min p2 p3) (own_max p0 p1) (own_max p2 p3) (own_min p0 p1) (own_min p2 p3))), .val (.int (own_in (own_min p0 p1) (own_min p2 p3) (own_max p0 p1) (own_max p2 p3) (own_max p0 p1) (own_max p2 p3))), .val (.int (own_in (own_min p0 p1) (own_min p2 p3) (own_max p0 p1) (own_max p2 p3) (own_min p0 p1) (own_max p2 p3)))] [(.int (1 : Int32))]))) (fun t kt => ?_) ?_
      · show Steps p.tables e below (T125.setTop (mkF m 130 #[.val (.int p0), .val (.int p1), .val (.int p2), .val (.int p3), .val (.int p4), .val (.int p5), .val (.int (own_min p0 p1)), .val (.int (own_max p0 p1)), .val (.int (own_min p2 p3)), .val (.int (own_max p2 p3)), .val (.ref b102), .val (.int (own_in (own_min p0 p1) (own_min p2 p3) (own_max p0 p1) (own_max p2 p3) p4 p5)), .val (.int (1 : Int32)), .val (.int (own_in (own_min p0 p1) (own_min p2 p3) (own_max p0 p1) (own_max p2 p3) (own_min p0 p1) (own_min p2 p3))), .val (.int (own_in (own_min p0 p1) (own_min p2 p3) (own_max p0 p1) (own_max p2 p3) (own_max p0 p1) (own_max p2 p3))), .unset] [(.int (own_in (own_min p0 p1) (own_min p2 p3) (own_max p0 p1) (own_max p2 p3) (own_min p0 p1) (own_max p2 p3)))])) _
        refine XS.istore X125.here hx rfl (own_hb hby at_130) rfl (l' := #[.val (.int p0), .val (.int p1), .val (.int p2), .val (.int p3), .val (.int p4), .val (.int p5), .val (.int (own_min p0 p1)), .val (.int (own_max p0 p1)), .val (.int (own_min p2 p3)), .val (.int (own_max p2 p3)), .val (.ref b102), .val (.int (own_in (own_min p0 p1) (own_min p2 p3) (own_max p0 p1) (own_max p2 p3) p4 p5)), .val (.int (1 : Int32)), .val (.int (own_in (own_min p0 p1) (own_min p2 p3) (own_max p0 p1) (own_max p2 p3) (own_min p0 p1) (own_min p2 p3))), .val (.int (own_in (own_min p0 p1) (own_min p2 p3) (own_max p0 p1) (own_max p2 p3) (own_max p0 p1) (own_max p2 p3))), .val (.int (own_in (own_min p0 p1) (own_min p2 p3) (own_max p0 p1) (own_max p2 p3) (own_min p0 p1) (own_max p2 p3)))]) rfl ?_
        show Steps p.tables e below (T125.setTop (mkF m 132 #[.val (.int p0), .val (.int p1), .val (.int p2), .val (.int p3), .val (.int p4), .val (.int p5), .val (.int (own_min p0 p1)), .val (.int (own_max p0 p1)), .val (.int (own_min p2 p3)), .val (.int (own_max p2 p3)), .val (.ref b102), .val (.int (own_in (own_min p0 p1) (own_min p2 p3) (own_max p0 p1) (own_max p2 p3) p4 p5)), .val (.int (1 : Int32)), .val (.int (own_in (own_min p0 p1) (own_min p2 p3) (own_max p0 p1) (own_max p2 p3) (own_min p0 p1) (own_min p2 p3))), .val (.int (own_in (own_min p0 p1) (own_min p2 p3) (own_max p0 p1) (own_max p2 p3) (own_max p0 p1) (own_max p2 p3))), .val (.int (own_in (own_min p0 p1) (own_min p2 p3) (own_max p0 p1) (own_max p2 p3) (own_min p0 p1) (own_max p2 p3)))] [])) _
        refine XS.iload X125.here hx rfl (own_hb hby at_132) rfl ?_
        show Steps p.tables e below (T125.setTop (mkF m 134 #[.val (.int p0), .val (.int p1), .val (.int p2), .val (.int p3), .val (.int p4), .val (.int p5), .val (.int (own_min p0 p1)), .val (.int (own_max p0 p1)), .val (.int (own_min p2 p3)), .val (.int (own_max p2 p3)), .val (.ref b102), .val (.int (own_in (own_min p0 p1) (own_min p2 p3) (own_max p0 p1) (own_max p2 p3) p4 p5)), .val (.int (1 : Int32)), .val (.int (own_in (own_min p0 p1) (own_min p2 p3) (own_max p0 p1) (own_max p2 p3) (own_min p0 p1) (own_min p2 p3))), .val (.int (own_in (own_min p0 p1) (own_min p2 p3) (own_max p0 p1) (own_max p2 p3) (own_max p0 p1) (own_max p2 p3))), .val (.int (own_in (own_min p0 p1) (own_min p2 p3) (own_max p0 p1) (own_max p2 p3) (own_min p0 p1) (own_max p2 p3)))] [(.int (own_in (own_min p0 p1) (own_min p2 p3) (own_max p0 p1) (own_max p2 p3) p4 p5))])) _
        refine XS.iload X125.here hx rfl (own_hb hby at_134) rfl ?_
        show Steps p.tables e below (T125.setTop (mkF m 136 #[.val (.int p0), .val (.int p1), .val (.int p2), .val (.int p3), .val (.int p4), .val (.int p5), .val (.int (own_min p0 p1)), .val (.int (own_max p0 p1)), .val (.int (own_min p2 p3)), .val (.int (own_max p2 p3)), .val (.ref b102), .val (.int (own_in (own_min p0 p1) (own_min p2 p3) (own_max p0 p1) (own_max p2 p3) p4 p5)), .val (.int (1 : Int32)), .val (.int (own_in (own_min p0 p1) (own_min p2 p3) (own_max p0 p1) (own_max p2 p3) (own_min p0 p1) (own_min p2 p3))), .val (.int (own_in (own_min p0 p1) (own_min p2 p3) (own_max p0 p1) (own_max p2 p3) (own_max p0 p1) (own_max p2 p3))), .val (.int (own_in (own_min p0 p1) (own_min p2 p3) (own_max p0 p1) (own_max p2 p3) (own_min p0 p1) (own_max p2 p3)))] [(.int (1 : Int32)), (.int (own_in (own_min p0 p1) (own_min p2 p3) (own_max p0 p1) (own_max p2 p3) p4 p5))])) _
        refine XS.icmpNo X125.here hx rfl (own_hb hby at_136) rfl (teq (own_f1 (own_mm p0 p1) (own_mm p2 p3) hc71_114 hc83_119)).2 ?_
        show Steps p.tables e below (T125.setTop (mkF m 139 #[.val (.int p0), .val (.int p1), .val (.int p2), .val (.int p3), .val (.int p4), .val (.int p5), .val (.int (own_min p0 p1)), .val (.int (own_max p0 p1)), .val (.int (own_min p2 p3)), .val (.int (own_max p2 p3)), .val (.ref b102), .val (.int (own_in (own_min p0 p1) (own_min p2 p3) (own_max p0 p1) (own_max p2 p3) p4 p5)), .val (.int (1 : Int32)), .val (.int (own_in (own_min p0 p1) (own_min p2 p3) (own_max p0 p1) (own_max p2 p3) (own_min p0 p1) (own_min p2 p3))), .val (.int (own_in (own_min p0 p1) (own_min p2 p3) (own_max p0 p1) (own_max p2 p3) (own_max p0 p1) (own_max p2 p3))), .val (.int (own_in (own_min p0 p1) (own_min p2 p3) (own_max p0 p1) (own_max p2 p3) (own_min p0 p1) (own_max p2 p3)))] [])) _
        refine XS.iload X125.here hx rfl (own_hb hby at_139) rfl ?_
        show Steps p.tables e below (T125.setTop (mkF m 141 #[.val (.int p0), .val (.int p1), .val (.int p2), .val (.int p3), .val (.int p4), .val (.int p5), .val (.int (own_min p0 p1)), .val (.int (own_max p0 p1)), .val (.int (own_min p2 p3)), .val (.int (own_max p2 p3)), .val (.ref b102), .val (.int (own_in (own_min p0 p1) (own_min p2 p3) (own_max p0 p1) (own_max p2 p3) p4 p5)), .val (.int (1 : Int32)), .val (.int (own_in (own_min p0 p1) (own_min p2 p3) (own_max p0 p1) (own_max p2 p3) (own_min p0 p1) (own_min p2 p3))), .val (.int (own_in (own_min p0 p1) (own_min p2 p3) (own_max p0 p1) (own_max p2 p3) (own_max p0 p1) (own_max p2 p3))), .val (.int (own_in (own_min p0 p1) (own_min p2 p3) (own_max p0 p1) (own_max p2 p3) (own_min p0 p1) (own_max p2 p3)))] [(.int (own_in (own_min p0 p1) (own_min p2 p3) (own_max p0 p1) (own_max p2 p3) (own_min p0 p1) (own_min p2 p3)))])) _
        refine XS.ifNo X125.here hx rfl (own_hb hby at_141) rfl ((if0 _ _).trans (feq (own_nz (own_in_self _ _ _ _ _ _ (own_irr _) (own_mm p0 p1) (own_irr _) (own_mm p2 p3)))).1) ?_
        show Steps p.tables e below (T125.setTop (mkF m 144 #[.val (.int p0), .val (.int p1), .val (.int p2), .val (.int p3), .val (.int p4), .val (.int p5), .val (.int (own_min p0 p1)), .val (.int (own_max p0 p1)), .val (.int (own_min p2 p3)), .val (.int (own_max p2 p3)), .val (.ref b102), .val (.int (own_in (own_min p0 p1) (own_min p2 p3) (own_max p0 p1) (own_max p2 p3) p4 p5)), .val (.int (1 : Int32)), .val (.int (own_in (own_min p0 p1) (own_min p2 p3) (own_max p0 p1) (own_max p2 p3) (own_min p0 p1) (own_min p2 p3))), .val (.int (own_in (own_min p0 p1) (own_min p2 p3) (own_max p0 p1) (own_max p2 p3) (own_max p0 p1) (own_max p2 p3))), .val (.int (own_in (own_min p0 p1) (own_min p2 p3) (own_max p0 p1) (own_max p2 p3) (own_min p0 p1) (own_max p2 p3)))] [])) _
        refine XS.iload X125.here hx rfl (own_hb hby at_144) rfl ?_
        show Steps p.tables e below (T125.setTop (mkF m 146 #[.val (.int p0), .val (.int p1), .val (.int p2), .val (.int p3), .val (.int p4), .val (.int p5), .val (.int (own_min p0 p1)), .val (.int (own_max p0 p1)), .val (.int (own_min p2 p3)), .val (.int (own_max p2 p3)), .val (.ref b102), .val (.int (own_in (own_min p0 p1) (own_min p2 p3) (own_max p0 p1) (own_max p2 p3) p4 p5)), .val (.int (1 : Int32)), .val (.int (own_in (own_min p0 p1) (own_min p2 p3) (own_max p0 p1) (own_max p2 p3) (own_min p0 p1) (own_min p2 p3))), .val (.int (own_in (own_min p0 p1) (own_min p2 p3) (own_max p0 p1) (own_max p2 p3) (own_max p0 p1) (own_max p2 p3))), .val (.int (own_in (own_min p0 p1) (own_min p2 p3) (own_max p0 p1) (own_max p2 p3) (own_min p0 p1) (own_max p2 p3)))] [(.int (own_in (own_min p0 p1) (own_min p2 p3) (own_max p0 p1) (own_max p2 p3) (own_max p0 p1) (own_max p2 p3)))])) _
        refine XS.ifNo X125.here hx rfl (own_hb hby at_146) rfl ((if0 _ _).trans (feq (own_nz (own_in_self _ _ _ _ _ _ (own_mm p0 p1) (own_irr _) (own_mm p2 p3) (own_irr _)))).1) ?_
        show Steps p.tables e below (T125.setTop (mkF m 149 #[.val (.int p0), .val (.int p1), .val (.int p2), .val (.int p3), .val (.int p4), .val (.int p5), .val (.int (own_min p0 p1)), .val (.int (own_max p0 p1)), .val (.int (own_min p2 p3)), .val (.int (own_max p2 p3)), .val (.ref b102), .val (.int (own_in (own_min p0 p1) (own_min p2 p3) (own_max p0 p1) (own_max p2 p3) p4 p5)), .val (.int (1 : Int32)), .val (.int (own_in (own_min p0 p1) (own_min p2 p3) (own_max p0 p1) (own_max p2 p3) (own_min p0 p1) (own_min p2 p3))), .val (.int (own_in (own_min p0 p1) (own_min p2 p3) (own_max p0 p1) (own_max p2 p3) (own_max p0 p1) (own_max p2 p3))), .val (.int (own_in (own_min p0 p1) (own_min p2 p3) (own_max p0 p1) (own_max p2 p3) (own_min p0 p1) (own_max p2 p3)))] [])) _
        refine XS.iload X125.here hx rfl (own_hb hby at_149) rfl ?_
        show Steps p.tables e below (T125.setTop (mkF m 151 #[.val (.int p0), .val (.int p1), .val (.int p2), .val (.int p3), .val (.int p4), .val (.int p5), .val (.int (own_min p0 p1)), .val (.int (own_max p0 p1)), .val (.int (own_min p2 p3)), .val (.int (own_max p2 p3)), .val (.ref b102), .val (.int (own_in (own_min p0 p1) (own_min p2 p3) (own_max p0 p1) (own_max p2 p3) p4 p5)), .val (.int (1 : Int32)), .val (.int (own_in (own_min p0 p1) (own_min p2 p3) (own_max p0 p1) (own_max p2 p3) (own_min p0 p1) (own_min p2 p3))), .val (.int (own_in (own_min p0 p1) (own_min p2 p3) (own_max p0 p1) (own_max p2 p3) (own_max p0 p1) (own_max p2 p3))), .val (.int (own_in (own_min p0 p1) (own_min p2 p3) (own_max p0 p1) (own_max p2 p3) (own_min p0 p1) (own_max p2 p3)))] [(.int (own_in (own_min p0 p1) (own_min p2 p3) (own_max p0 p1) (own_max p2 p3) (own_min p0 p1) (own_max p2 p3)))])) _
        refine XS.ifNo X125.here hx rfl (own_hb hby at_151) rfl ((if0 _ _).trans (feq (own_nz (own_in_self _ _ _ _ _ _ (own_irr _) (own_mm p0 p1) (own_mm p2 p3) (own_irr _)))).1) ?_
        show Steps p.tables e below (T125.setTop (mkF m 154 #[.val (.int p0), .val (.int p1), .val (.int p2), .val (.int p3), .val (.int p4), .val (.int p5), .val (.int (own_min p0 p1)), .val (.int (own_max p0 p1)), .val (.int (own_min p2 p3)), .val (.int (own_max p2 p3)), .val (.ref b102), .val (.int (own_in (own_min p0 p1) (own_min p2 p3) (own_max p0 p1) (own_max p2 p3) p4 p5)), .val (.int (1 : Int32)), .val (.int (own_in (own_min p0 p1) (own_min p2 p3) (own_max p0 p1) (own_max p2 p3) (own_min p0 p1) (own_min p2 p3))), .val (.int (own_in (own_min p0 p1) (own_min p2 p3) (own_max p0 p1) (own_max p2 p3) (own_max p0 p1) (own_max p2 p3))), .val (.int (own_in (own_min p0 p1) (own_min p2 p3) (own_max p0 p1) (own_max p2 p3) (own_min p0 p1) (own_max p2 p3)))] [])) _
        refine XS.iconst X125.here hx rfl (own_hb hby at_154) ?_
        show Steps p.tables e below (T125.setTop (mkF m 155 #[.val (.int p0), .val (.int p1), .val (.int p2), .val (.int p3), .val (.int p4), .val (.int p5), .val (.int (own_min p0 p1)), .val (.int (own_max p0 p1)), .val (.int (own_min p2 p3)), .val (.int (own_max p2 p3)), .val (.ref b102), .val (.int (own_in (own_min p0 p1) (own_min p2 p3) (own_max p0 p1) (own_max p2 p3) p4 p5)), .val (.int (1 : Int32)), .val (.int (own_in (own_min p0 p1) (own_min p2 p3) (own_max p0 p1) (own_max p2 p3) (own_min p0 p1) (own_min p2 p3))), .val (.int (own_in (own_min p0 p1) (own_min p2 p3) (own_max p0 p1) (own_max p2 p3) (own_max p0 p1) (own_max p2 p3))), .val (.int (own_in (own_min p0 p1) (own_min p2 p3) (own_max p0 p1) (own_max p2 p3) (own_min p0 p1) (own_max p2 p3)))] [(.int (1 : Int32))])) _
        refine XS.goto X125.here hx rfl (pc0 := 155) (pc' := 159) rfl (own_hb hby at_155) (by decide) (by decide) ?_
        exact kt
      exact own_retNW (vm0 := T109.vm) X125 hS109 (Nat.le_refl _) hx hlk (t := .boolean) hret (by simp) (own_hb hby at_159) hh125 ⟨rfl, N125⟩ (by decide) (by decide)
set_option maxRecDepth 65536 in
set_option maxHeartbeats 40000000 in
theorem comes_1 {Post : Tables → Env → Array Value → State → Outcome → State → Prop} (hpost : ∀ tb e args s v u, (limb_1_1.after args s (.returned v) u = true ∧ limb_1_2.after args s (.returned v) u = true ∧ True) → ReturnedEndW s (.returned v) u (Jvm.fieldLocs frame_1_writes args s ++ Jvm.arrayLocs frame_1_arrays args s ++ Jvm.staticLocs frame_1_statics s) 24 4224 → Post tb e args s (.returned v) u) :
    ArmFor flags0 classFile x code maxLocals ret World_1 tables_1 room_1 Calls_1 rest_1 Pre_1 Post := by
  intro l hfl _ _ p e ha hc hk s m args below hf hA hF happ hP
  obtain ⟨hcalls, hrest, hpre⟩ := hP
  obtain ⟨-, -, -, hnamed, -, -, -, hat⟩ := (Spec.applies_iff hf).mp happ
  obtain ⟨hg, hn⟩ := and_e (Cond.before_iff.mp (show (Jvm.Cond.and given_1 narrow_1).before args s = true from hpre))
  obtain ⟨gc, gr0⟩ := and_e hg
  obtain ⟨ga0, gr1⟩ := and_e gr0
  obtain ⟨ga1, gr2⟩ := and_e gr1
  obtain ⟨ga2, gr3⟩ := and_e gr2
  obtain ⟨ga3, gr4⟩ := and_e gr3
  obtain ⟨ga4, gr5⟩ := and_e gr4
  obtain ⟨w0, w1, w2, w3, w4, w5, rfl⟩ : ∃ w0 w1 w2 w3 w4 w5 : Value, args = #[w0, w1, w2, w3, w4, w5] := by
    have hs : args.size = 6 := by simpa [Cond.value, given_1] using gc
    obtain ⟨L⟩ := args
    match L, hs with
    | [w0, w1, w2, w3, w4, w5], _ => exact ⟨w0, w1, w2, w3, w4, w5, rfl⟩
  have hw := fun d (hd : d ∈ tables_1) => atoms_spec (ws := Jvm.Cond.code x code maxLocals ret :: tables_1) hat d (List.mem_cons_of_mem _ hd)
  have hfit : Fit s := fun {y c} hc i hi => by
    obtain ⟨ha, rfl⟩ := Array.getElem?_eq_some_iff.mp hc
    have q := List.all_eq_true.mp ((Array.all_eq_true_iff_forall_mem.mp hF) _ (Array.getElem_mem ha)) i (List.mem_range.mpr hi)
    simpa [Array.getElem?_eq_getElem hi] using q
  obtain ⟨i0, ei0⟩ := is_v ga0
  obtain rfl : w0 = (.int i0) := Option.some.inj ei0
  obtain ⟨i1, ei1⟩ := is_v ga1
  obtain rfl : w1 = (.int i1) := Option.some.inj ei1
  obtain ⟨i2, ei2⟩ := is_v ga2
  obtain rfl : w2 = (.int i2) := Option.some.inj ei2
  obtain ⟨i3, ei3⟩ := is_v ga3
  obtain rfl : w3 = (.int i3) := Option.some.inj ei3
  obtain ⟨i4, ei4⟩ := is_v ga4
  obtain rfl : w4 = (.int i4) := Option.some.inj ei4
  obtain ⟨i5, ei5⟩ := is_v gr5
  obtain rfl : w5 = (.int i5) := Option.some.inj ei5
  obtain ⟨n, o, h1, h2, h3, _, L, rfl, ⟨rfl, N⟩, hq⟩ := rm0 l s _ hw tables_1 i0 i1 i2 i3 i4 i5 s.heap s.heap.size (Nat.le_refl _)  p e ha hc hk s m _ below hf ((Spec.applies_iff_loose hf).mp happ).1 ⟨rfl, State.Warmed39.refl s, rfl⟩ trivial
  refine ⟨n, _, h1, h2, h3, hpost _ _ _ _ _ _ ⟨Cond.after_iff.mpr rfl, Cond.after_iff.mpr (eq_i res_at (Term.int_eval (1)) rfl), trivial⟩ ⟨hq.1, hq.2.1, hq.2.2.1, (hq.2.2.2.sift fun y hy => Or.inr (N y hy)).mono (by decide) (by decide)⟩⟩
theorem main_1_1 : Claimed_1_1 := comes_1 fun _ _ _ _ _ _ h hF => ⟨h.1, hF⟩
theorem main_1_2 : Claimed_1_2 := comes_1 fun _ _ _ _ _ _ h hF => ⟨h.2.1, hF⟩
end Jvm.Pilot.@@N@@
namespace Jvm.Pilot.@@N@@
open Jvm Jvm.ClassFile Sem Op Lib Jvm.Free Jvm.Stand Jvm.Pilot.@@N@@.Jvm.D
/-! MADE BY PROGRAM (witnessworld.py) out of the Statement's table words and the real class files: 18 classes; the members and pool entries that the words name. The judged class is class 1, her method 2. -/
namespace start1
open Jvm.ClassFile
def u (s : String) : CpInfo := .utf8 (stringToUtf16 s)
/-- a pool by its gaps: so many unusable entries, then the entry; so many at the end -/
def gap : Nat → List CpInfo → List CpInfo
  | 0, r => r
  | n + 1, r => .unusable :: gap n r
def poolList (es : List (Nat × CpInfo)) (last : Nat) : List CpInfo := es.foldr (fun e r => gap e.1 (e.2 :: r)) (gap last [])
def pool (es : List (Nat × CpInfo)) (last : Nat) : Array CpInfo := ⟨poolList es last⟩
def fileOf (pool : Array CpInfo) (this : Nat) (attrs : Array Attribute := #[]) (ms : Array MethodInfo := #[]) (fl : Nat := 33) (sup : Nat := 0) (ifs : Array Nat := #[]) (fds : Array FieldInfo := #[]) : ClassFile where
  minorVersion := 0
  majorVersion := 65
  constantPool := pool
  accessFlags := fl
  thisClass := this
  superClass := sup
  interfaces := ifs
  fields := fds
  methods := ms
  attributes := attrs
def plain (name : String) (sup : Option ClassId) : Class where
  name := name
  kind := .ordinary
  loader := none
  accessFlags := 33
  super := sup
  interfaces := #[]
  cf := none
  fields := #[]
  methods := #[]
  instanceTypes := #[]
  staticTypes := #[]
  resolved := #[]
  callSites := []
  init := .initialized
  statics := none
  mirror := none

def pool0 : Array CpInfo := pool [(5, u "<init>"), (0, u "()V"), (1, .class_ 10), (1, u "java/lang/Object")] 113

def k0c0 : Code := { maxStack := 0, maxLocals := 1, code := object_method_1_code, exceptionTable := #[], attributes := #[] }
def k0m0 : Method := { name := "<init>", desc := "()V", sig := { parameters := [], returnType := none }, accessFlags := 1, code := some k0c0 }
/-- java/lang/Object -/
def k0 : Class := { plain "java/lang/Object" none with
  accessFlags := 33
  interfaces := #[]
  cf := some (fileOf pool0 8 #[] #[{ accessFlags := 1, nameIndex := 5, descriptorIndex := 6, attributes := #[] }] 33 0 #[] #[])
  fields := #[]
  methods := #[k0m0]
  instanceTypes := #[]
  staticTypes := #[]
  resolved := Array.replicate 124 none
  statics := none }

def pool1 : Array CpInfo := pool [(2, .class_ 4), (1, u "java/lang/Object"), (0, u "<init>"), (0, u "()V"), (0, .methodref 8 9), (0, .class_ 10), (0, .nameAndType 11 12), (0, u "java/lang/Math"), (0, u "min"), (0, u "(II)I"), (0, .methodref 8 14), (0, .nameAndType 15 12), (0, u "max"), (0, .class_ 17), (0, u "com/example/sagasu/sagasu/Extent"), (0, .methodref 16 19), (0, .nameAndType 5 20), (0, u "(DDDD)V"), (0, .methodref 16 22), (0, .nameAndType 23 24), (0, u "contains"), (0, u "(DD)Z"), (0, .methodref 26 27), (0, .class_ 28), (0, .nameAndType 29 30), (0, u "com/example/sagasu/sagasu/ExtentContainsPinLaw"), (0, u "inClosed"), (0, u "(III)Z"), (3, u "law"), (0, u "(IIIIII)Z")] 2

def k1m0 : Method := { name := "<init>", desc := "()V", sig := { parameters := [], returnType := none }, accessFlags := 2, code := none }
def k1c1 : Code := { maxStack := 3, maxLocals := 3, code := method_2_code, exceptionTable := #[], attributes := #[] }
def k1m1 : Method := { name := "inClosed", desc := "(III)Z", sig := { parameters := [.int, .int, .int], returnType := some .boolean }, accessFlags := 10, code := some k1c1 }
def k1c2 : Code := { maxStack := 10, maxLocals := 16, code := code, exceptionTable := #[], attributes := #[] }
def k1m2 : Method := { name := "law", desc := "(IIIIII)Z", sig := { parameters := [.int, .int, .int, .int, .int, .int], returnType := some .boolean }, accessFlags := 9, code := some k1c2 }
/-- com/example/sagasu/sagasu/ExtentContainsPinLaw -/
def k1 : Class := { plain "com/example/sagasu/sagasu/ExtentContainsPinLaw" (some 0) with
  accessFlags := 49
  interfaces := #[]
  cf := some (fileOf pool1 26 #[] #[{ accessFlags := 2, nameIndex := 5, descriptorIndex := 6, attributes := #[] }, { accessFlags := 10, nameIndex := 29, descriptorIndex := 30, attributes := #[] }, { accessFlags := 9, nameIndex := 34, descriptorIndex := 35, attributes := #[] }] 49 2 #[] #[])
  fields := #[]
  methods := #[k1m0, k1m1, k1m2]
  instanceTypes := #[]
  staticTypes := #[]
  resolved := Array.replicate 38 none
  statics := none }

def pool2 : Array CpInfo := pool [(1, .class_ 2), (0, u "java/lang/Math"), (1, .class_ 6), (1, u "java/lang/Object"), (0, u "<init>"), (0, u "()V"), (5, u "(D)D"), (83, .class_ 100), (1, u "java/lang/Math$RandomNumberGeneratorHolder"), (23, u "abs"), (47, u "negativeZeroFloatBits"), (0, u "J"), (2, u "negativeZeroDoubleBits"), (21, u "max"), (2, u "min"), (43, u "$assertionsDisabled"), (0, u "Z"), (88, u "(II)I"), (2, u "twoToTheDoubleScaleDown"), (0, u "D"), (4, u "twoToTheDoubleScaleUp"), (9, u "E"), (3, u "PI"), (2, u "TAU"), (2, u "DEGREES_TO_RADIANS"), (0, u "RADIANS_TO_DEGREES")] 94

def k2m0 : Method := { name := "<init>", desc := "()V", sig := { parameters := [], returnType := none }, accessFlags := 2, code := none }
def k2c1 : Code := { maxStack := 4, maxLocals := 2, code := jdk_29_method_64_code, exceptionTable := #[], attributes := #[] }
def k2m1 : Method := { name := "abs", desc := "(D)D", sig := { parameters := [.double], returnType := some .double }, accessFlags := 9, code := some k2c1 }
def k2c2 : Code := { maxStack := 2, maxLocals := 2, code := jdk_29_method_65_code, exceptionTable := #[], attributes := #[] }
def k2m2 : Method := { name := "max", desc := "(II)I", sig := { parameters := [.int, .int], returnType := some .int }, accessFlags := 9, code := some k2c2 }
def k2c3 : Code := { maxStack := 2, maxLocals := 2, code := jdk_29_method_69_code, exceptionTable := #[], attributes := #[] }
def k2m3 : Method := { name := "min", desc := "(II)I", sig := { parameters := [.int, .int], returnType := some .int }, accessFlags := 9, code := some k2c3 }
/-- java/lang/Math -/
def k2 : Class := { plain "java/lang/Math" (some 0) with
  accessFlags := 49
  interfaces := #[]
  cf := some (fileOf pool2 1 #[.nestMembers #[98]] #[{ accessFlags := 2, nameIndex := 7, descriptorIndex := 8, attributes := #[] }, { accessFlags := 9, nameIndex := 124, descriptorIndex := 14, attributes := #[] }, { accessFlags := 9, nameIndex := 198, descriptorIndex := 335, attributes := #[] }, { accessFlags := 9, nameIndex := 201, descriptorIndex := 335, attributes := #[] }] 49 4 #[] #[{ accessFlags := 25, nameIndex := 354, descriptorIndex := 339, attributes := #[] }, { accessFlags := 25, nameIndex := 358, descriptorIndex := 339, attributes := #[] }, { accessFlags := 25, nameIndex := 361, descriptorIndex := 339, attributes := #[] }, { accessFlags := 26, nameIndex := 364, descriptorIndex := 339, attributes := #[] }, { accessFlags := 26, nameIndex := 365, descriptorIndex := 339, attributes := #[] }, { accessFlags := 26, nameIndex := 172, descriptorIndex := 173, attributes := #[] }, { accessFlags := 26, nameIndex := 176, descriptorIndex := 173, attributes := #[] }, { accessFlags := 8, nameIndex := 344, descriptorIndex := 339, attributes := #[] }, { accessFlags := 8, nameIndex := 338, descriptorIndex := 339, attributes := #[] }, { accessFlags := 4120, nameIndex := 245, descriptorIndex := 246, attributes := #[] }])
  fields := #[{ name := "E", type := .double, accessFlags := 25, slot := 0, constantValue := 0 }, { name := "PI", type := .double, accessFlags := 25, slot := 1, constantValue := 0 }, { name := "TAU", type := .double, accessFlags := 25, slot := 2, constantValue := 0 }, { name := "DEGREES_TO_RADIANS", type := .double, accessFlags := 26, slot := 3, constantValue := 0 }, { name := "RADIANS_TO_DEGREES", type := .double, accessFlags := 26, slot := 4, constantValue := 0 }, { name := "negativeZeroFloatBits", type := .long, accessFlags := 26, slot := 5, constantValue := 0 }, { name := "negativeZeroDoubleBits", type := .long, accessFlags := 26, slot := 6, constantValue := 0 }, { name := "twoToTheDoubleScaleUp", type := .double, accessFlags := 8, slot := 7, constantValue := 0 }, { name := "twoToTheDoubleScaleDown", type := .double, accessFlags := 8, slot := 8, constantValue := 0 }, { name := "$assertionsDisabled", type := .boolean, accessFlags := 4120, slot := 9, constantValue := 0 }]
  methods := #[k2m0, k2m1, k2m2, k2m3]
  instanceTypes := #[]
  staticTypes := #[.double, .double, .double, .double, .double, .long, .long, .double, .double, .boolean]
  resolved := Array.replicate 460 none
  statics := none }

def pool3 : Array CpInfo := pool [(1, .methodref 2 3), (0, .class_ 4), (0, .nameAndType 5 6), (0, u "java/lang/Object"), (0, u "<init>"), (0, u "()V"), (0, .string 8), (0, u "minimum x"), (0, .methodref 10 11), (0, .class_ 12), (0, .nameAndType 13 14), (0, u "com/example/sagasu/sagasu/DataObject"), (0, u "checkCoordinate"), (0, u "(Ljava/lang/String;D)D"), (0, .fieldref 16 17), (0, .class_ 18), (0, .nameAndType 19 20), (0, u "com/example/sagasu/sagasu/Extent"), (0, u "minX"), (0, u "D"), (0, .string 22), (0, u "minimum y"), (0, .fieldref 16 24), (0, .nameAndType 25 20), (0, u "minY"), (0, .string 27), (0, u "maximum x"), (0, .fieldref 16 29), (0, .nameAndType 30 20), (0, u "maxX"), (0, .string 32), (0, u "maximum y"), (0, .fieldref 16 34), (0, .nameAndType 35 20), (0, u "maxY"), (47, u "contains"), (0, u "(DD)Z"), (23, u "(DDDD)V")] 49

def k3c0 : Code := { maxStack := 6, maxLocals := 9, code := prog_11_method_1_code, exceptionTable := #[], attributes := #[] }
def k3m0 : Method := { name := "<init>", desc := "(DDDD)V", sig := { parameters := [.double, .double, .double, .double], returnType := none }, accessFlags := 1, code := some k3c0 }
def k3c1 : Code := { maxStack := 4, maxLocals := 5, code := prog_11_method_6_code, exceptionTable := #[], attributes := #[] }
def k3m1 : Method := { name := "contains", desc := "(DD)Z", sig := { parameters := [.double, .double], returnType := some .boolean }, accessFlags := 1, code := some k3c1 }
/-- com/example/sagasu/sagasu/Extent -/
def k3 : Class := { plain "com/example/sagasu/sagasu/Extent" (some 0) with
  accessFlags := 49
  interfaces := #[]
  cf := some (fileOf pool3 16 #[] #[{ accessFlags := 1, nameIndex := 5, descriptorIndex := 108, attributes := #[] }, { accessFlags := 1, nameIndex := 83, descriptorIndex := 84, attributes := #[] }] 49 2 #[] #[{ accessFlags := 18, nameIndex := 19, descriptorIndex := 20, attributes := #[] }, { accessFlags := 18, nameIndex := 25, descriptorIndex := 20, attributes := #[] }, { accessFlags := 18, nameIndex := 30, descriptorIndex := 20, attributes := #[] }, { accessFlags := 18, nameIndex := 35, descriptorIndex := 20, attributes := #[] }])
  fields := #[{ name := "minX", type := .double, accessFlags := 18, slot := 0, constantValue := 0 }, { name := "minY", type := .double, accessFlags := 18, slot := 1, constantValue := 0 }, { name := "maxX", type := .double, accessFlags := 18, slot := 2, constantValue := 0 }, { name := "maxY", type := .double, accessFlags := 18, slot := 3, constantValue := 0 }]
  methods := #[k3m0, k3m1]
  instanceTypes := #[.double, .double, .double, .double]
  staticTypes := #[]
  resolved := Array.replicate 158 none
  statics := none }

def pool4 : Array CpInfo := pool [(1, .class_ 2), (0, u "java/io/Serializable"), (0, .class_ 4), (0, u "java/lang/Object")] 2

/-- java/io/Serializable -/
def k4 : Class := { plain "java/io/Serializable" (some 0) with
  accessFlags := 1537
  interfaces := #[]
  cf := some (fileOf pool4 1 #[] #[] 1537 3 #[] #[])
  fields := #[]
  methods := #[]
  instanceTypes := #[]
  staticTypes := #[]
  resolved := Array.replicate 7 none
  statics := none }

def pool5 : Array CpInfo := pool [(1, .class_ 2), (0, u "java/lang/Comparable"), (0, .class_ 4), (0, u "java/lang/Object")] 7

/-- java/lang/Comparable -/
def k5 : Class := { plain "java/lang/Comparable" (some 0) with
  accessFlags := 1537
  interfaces := #[]
  cf := some (fileOf pool5 1 #[] #[] 1537 3 #[] #[])
  fields := #[]
  methods := #[]
  instanceTypes := #[]
  staticTypes := #[]
  resolved := Array.replicate 12 none
  statics := none }

def pool6 : Array CpInfo := pool [(2, .class_ 4), (1, u "java/lang/CharSequence"), (42, .class_ 48), (0, u "java/lang/CharSequence$1CodePointIterator"), (10, .class_ 60), (0, u "java/lang/CharSequence$1CharIterator"), (5, .class_ 67), (0, u "java/lang/Object")] 63

/-- java/lang/CharSequence -/
def k6 : Class := { plain "java/lang/CharSequence" (some 0) with
  accessFlags := 1537
  interfaces := #[]
  cf := some (fileOf pool6 2 #[.nestMembers #[47, 59]] #[] 1537 66 #[] #[])
  fields := #[]
  methods := #[]
  instanceTypes := #[]
  staticTypes := #[]
  resolved := Array.replicate 131 none
  statics := none }

def pool7 : Array CpInfo := pool [(1, .class_ 2), (0, u "java/lang/constant/Constable"), (0, .class_ 4), (0, u "java/lang/Object")] 6

/-- java/lang/constant/Constable -/
def k7 : Class := { plain "java/lang/constant/Constable" (some 0) with
  accessFlags := 1537
  interfaces := #[]
  cf := some (fileOf pool7 1 #[] #[] 1537 3 #[] #[])
  fields := #[]
  methods := #[]
  instanceTypes := #[]
  staticTypes := #[]
  resolved := Array.replicate 11 none
  statics := none }

def pool8 : Array CpInfo := pool [(1, .class_ 2), (0, u "java/lang/constant/ConstantDesc"), (0, .class_ 4), (0, u "java/lang/Object")] 32

/-- java/lang/constant/ConstantDesc -/
def k8 : Class := { plain "java/lang/constant/ConstantDesc" (some 0) with
  accessFlags := 1537
  interfaces := #[]
  cf := some (fileOf pool8 1 #[] #[] 1537 3 #[] #[])
  fields := #[]
  methods := #[]
  instanceTypes := #[]
  staticTypes := #[]
  resolved := Array.replicate 37 none
  statics := none }

def pool9 : Array CpInfo := pool [(2, .class_ 4), (1, u "java/lang/Object"), (0, u "<init>"), (0, u "()V"), (3, .class_ 12), (1, u "java/lang/String"), (0, u "value"), (0, u "[B"), (2, u "coder"), (0, u "B"), (2, u "hash"), (0, u "I"), (2, u "hashIsZero"), (0, u "Z"), (13, u "COMPACT_STRINGS"), (534, .class_ 576), (0, u "java/lang/CharSequence"), (22, u "CASE_INSENSITIVE_ORDER"), (0, u "Ljava/util/Comparator;"), (500, u "serialPersistentFields"), (0, u "[Ljava/io/ObjectStreamField;"), (0, .class_ 1104), (0, u "java/lang/String$CaseInsensitiveComparator"), (1, .class_ 1107), (0, u "java/io/Serializable"), (0, .class_ 1109), (0, u "java/lang/Comparable"), (0, .class_ 1111), (0, u "java/lang/constant/Constable"), (0, .class_ 1113), (0, u "java/lang/constant/ConstantDesc"), (2, u "serialVersionUID"), (0, u "J"), (3, u "REPL"), (0, u "C"), (2, u "LATIN1"), (1, u "UTF16")] 323

def k9m0 : Method := { name := "<init>", desc := "()V", sig := { parameters := [], returnType := none }, accessFlags := 1, code := none }
/-- java/lang/String -/
def k9 : Class := { plain "java/lang/String" (some 0) with
  accessFlags := 49
  interfaces := #[4, 5, 6, 7, 8]
  cf := some (fileOf pool9 10 #[.nestMembers #[1103]] #[{ accessFlags := 1, nameIndex := 5, descriptorIndex := 6, attributes := #[] }] 49 2 #[1106, 1108, 575, 1110, 1112] #[{ accessFlags := 18, nameIndex := 13, descriptorIndex := 14, attributes := #[] }, { accessFlags := 18, nameIndex := 17, descriptorIndex := 18, attributes := #[] }, { accessFlags := 2, nameIndex := 21, descriptorIndex := 22, attributes := #[] }, { accessFlags := 2, nameIndex := 25, descriptorIndex := 26, attributes := #[] }, { accessFlags := 26, nameIndex := 1116, descriptorIndex := 1117, attributes := #[] }, { accessFlags := 24, nameIndex := 40, descriptorIndex := 26, attributes := #[] }, { accessFlags := 26, nameIndex := 1101, descriptorIndex := 1102, attributes := #[] }, { accessFlags := 26, nameIndex := 1121, descriptorIndex := 1122, attributes := #[] }, { accessFlags := 25, nameIndex := 599, descriptorIndex := 600, attributes := #[] }, { accessFlags := 24, nameIndex := 1125, descriptorIndex := 18, attributes := #[] }, { accessFlags := 24, nameIndex := 1127, descriptorIndex := 18, attributes := #[] }])
  fields := #[{ name := "value", type := (.array .byte), accessFlags := 18, slot := 0, constantValue := 0 }, { name := "coder", type := .byte, accessFlags := 18, slot := 1, constantValue := 0 }, { name := "hash", type := .int, accessFlags := 2, slot := 2, constantValue := 0 }, { name := "hashIsZero", type := .boolean, accessFlags := 2, slot := 3, constantValue := 0 }, { name := "serialVersionUID", type := .long, accessFlags := 26, slot := 0, constantValue := 0 }, { name := "COMPACT_STRINGS", type := .boolean, accessFlags := 24, slot := 1, constantValue := 0 }, { name := "serialPersistentFields", type := (.array (.object "java/io/ObjectStreamField")), accessFlags := 26, slot := 2, constantValue := 0 }, { name := "REPL", type := .char, accessFlags := 26, slot := 3, constantValue := 0 }, { name := "CASE_INSENSITIVE_ORDER", type := (.object "java/util/Comparator"), accessFlags := 25, slot := 4, constantValue := 0 }, { name := "LATIN1", type := .byte, accessFlags := 24, slot := 5, constantValue := 0 }, { name := "UTF16", type := .byte, accessFlags := 24, slot := 6, constantValue := 0 }]
  methods := #[k9m0]
  instanceTypes := #[(.array .byte), .byte, .int, .boolean]
  staticTypes := #[.long, .boolean, (.array (.object "java/io/ObjectStreamField")), .char, (.object "java/util/Comparator"), .byte, .byte]
  resolved := Array.replicate 1451 none
  statics := none }

def pool10 : Array CpInfo := pool [(2, .class_ 4), (1, u "java/lang/Object"), (3, .class_ 10), (1, u "com/example/sagasu/sagasu/DataObject"), (4, u "id"), (0, u "Ljava/lang/String;"), (1, u "x"), (2, u "checkCoordinate"), (0, u "(Ljava/lang/String;D)D"), (2, u "D"), (1, u "y"), (22, .methodref 51 52), (0, .class_ 53), (0, .nameAndType 54 55), (0, u "java/lang/Double"), (0, u "isFinite"), (0, u "(D)Z")] 28

def k10c0 : Code := { maxStack := 5, maxLocals := 3, code := prog_8_method_6_code, exceptionTable := #[], attributes := #[] }
def k10m0 : Method := { name := "checkCoordinate", desc := "(Ljava/lang/String;D)D", sig := { parameters := [(.object "java/lang/String"), .double], returnType := some .double }, accessFlags := 8, code := some k10c0 }
/-- com/example/sagasu/sagasu/DataObject -/
def k10 : Class := { plain "com/example/sagasu/sagasu/DataObject" (some 0) with
  accessFlags := 49
  interfaces := #[]
  cf := some (fileOf pool10 8 #[] #[{ accessFlags := 8, nameIndex := 21, descriptorIndex := 22, attributes := #[] }] 49 2 #[] #[{ accessFlags := 18, nameIndex := 15, descriptorIndex := 16, attributes := #[] }, { accessFlags := 18, nameIndex := 18, descriptorIndex := 25, attributes := #[] }, { accessFlags := 18, nameIndex := 27, descriptorIndex := 25, attributes := #[] }])
  fields := #[{ name := "id", type := (.object "java/lang/String"), accessFlags := 18, slot := 0, constantValue := 0 }, { name := "x", type := .double, accessFlags := 18, slot := 1, constantValue := 0 }, { name := "y", type := .double, accessFlags := 18, slot := 2, constantValue := 0 }]
  methods := #[k10m0]
  instanceTypes := #[(.object "java/lang/String"), .double, .double]
  staticTypes := #[]
  resolved := Array.replicate 84 none
  statics := none }

def pool11 : Array CpInfo := pool [(2, .class_ 4), (1, u "java/lang/Object"), (0, u "<init>"), (0, u "()V"), (1, .class_ 10), (1, u "java/lang/Number"), (2, .class_ 14), (0, u "java/io/Serializable"), (0, u "serialVersionUID"), (0, u "J")] 20

def k11m0 : Method := { name := "<init>", desc := "()V", sig := { parameters := [], returnType := none }, accessFlags := 1, code := none }
/-- java/lang/Number -/
def k11 : Class := { plain "java/lang/Number" (some 0) with
  accessFlags := 1057
  interfaces := #[4]
  cf := some (fileOf pool11 8 #[] #[{ accessFlags := 1, nameIndex := 5, descriptorIndex := 6, attributes := #[] }] 1057 2 #[13] #[{ accessFlags := 26, nameIndex := 15, descriptorIndex := 16, attributes := #[] }])
  fields := #[{ name := "serialVersionUID", type := .long, accessFlags := 26, slot := 0, constantValue := 0 }]
  methods := #[k11m0]
  instanceTypes := #[]
  staticTypes := #[.long]
  resolved := Array.replicate 37 none
  statics := none }

def pool12 : Array CpInfo := pool [(1, .class_ 2), (0, u "java/lang/Double"), (10, u "isFinite"), (0, u "(D)Z"), (8, .class_ 25), (1, u "java/lang/Math"), (12, .methodref 23 39), (0, .nameAndType 40 41), (0, u "abs"), (0, u "(D)D"), (69, .double 9218868437227405311), (2, .class_ 116), (1, u "java/lang/Number"), (3, u "value"), (0, u "D"), (51, u "TYPE"), (0, u "Ljava/lang/Class;"), (0, .class_ 176), (0, u "java/lang/Comparable"), (0, .class_ 178), (0, u "java/lang/constant/Constable"), (0, .class_ 180), (0, u "java/lang/constant/ConstantDesc"), (0, u "POSITIVE_INFINITY"), (3, u "NEGATIVE_INFINITY"), (2, u "NaN"), (2, u "MAX_VALUE"), (0, u "MIN_NORMAL"), (0, u "MIN_VALUE"), (2, u "SIZE"), (0, u "I"), (1, u "PRECISION"), (1, u "MAX_EXPONENT"), (1, u "MIN_EXPONENT"), (1, u "BYTES"), (3, u "serialVersionUID"), (0, u "J")] 79

def k12c0 : Code := { maxStack := 4, maxLocals := 2, code := jdk_117_method_8_code, exceptionTable := #[], attributes := #[] }
def k12m0 : Method := { name := "isFinite", desc := "(D)Z", sig := { parameters := [.double], returnType := some .boolean }, accessFlags := 9, code := some k12c0 }
/-- java/lang/Double -/
def k12 : Class := { plain "java/lang/Double" (some 11) with
  accessFlags := 49
  interfaces := #[5, 7, 8]
  cf := some (fileOf pool12 1 #[] #[{ accessFlags := 9, nameIndex := 13, descriptorIndex := 14, attributes := #[] }] 49 114 #[175, 177, 179] #[{ accessFlags := 25, nameIndex := 181, descriptorIndex := 121, attributes := #[] }, { accessFlags := 25, nameIndex := 185, descriptorIndex := 121, attributes := #[] }, { accessFlags := 25, nameIndex := 188, descriptorIndex := 121, attributes := #[] }, { accessFlags := 25, nameIndex := 191, descriptorIndex := 121, attributes := #[] }, { accessFlags := 25, nameIndex := 192, descriptorIndex := 121, attributes := #[] }, { accessFlags := 25, nameIndex := 193, descriptorIndex := 121, attributes := #[] }, { accessFlags := 25, nameIndex := 196, descriptorIndex := 197, attributes := #[] }, { accessFlags := 25, nameIndex := 199, descriptorIndex := 197, attributes := #[] }, { accessFlags := 25, nameIndex := 201, descriptorIndex := 197, attributes := #[] }, { accessFlags := 25, nameIndex := 203, descriptorIndex := 197, attributes := #[] }, { accessFlags := 25, nameIndex := 205, descriptorIndex := 197, attributes := #[] }, { accessFlags := 25, nameIndex := 173, descriptorIndex := 174, attributes := #[] }, { accessFlags := 18, nameIndex := 120, descriptorIndex := 121, attributes := #[] }, { accessFlags := 26, nameIndex := 209, descriptorIndex := 210, attributes := #[] }])
  fields := #[{ name := "POSITIVE_INFINITY", type := .double, accessFlags := 25, slot := 0, constantValue := 0 }, { name := "NEGATIVE_INFINITY", type := .double, accessFlags := 25, slot := 1, constantValue := 0 }, { name := "NaN", type := .double, accessFlags := 25, slot := 2, constantValue := 0 }, { name := "MAX_VALUE", type := .double, accessFlags := 25, slot := 3, constantValue := 0 }, { name := "MIN_NORMAL", type := .double, accessFlags := 25, slot := 4, constantValue := 0 }, { name := "MIN_VALUE", type := .double, accessFlags := 25, slot := 5, constantValue := 0 }, { name := "SIZE", type := .int, accessFlags := 25, slot := 6, constantValue := 0 }, { name := "PRECISION", type := .int, accessFlags := 25, slot := 7, constantValue := 0 }, { name := "MAX_EXPONENT", type := .int, accessFlags := 25, slot := 8, constantValue := 0 }, { name := "MIN_EXPONENT", type := .int, accessFlags := 25, slot := 9, constantValue := 0 }, { name := "BYTES", type := .int, accessFlags := 25, slot := 10, constantValue := 0 }, { name := "TYPE", type := (.object "java/lang/Class"), accessFlags := 25, slot := 11, constantValue := 0 }, { name := "value", type := .double, accessFlags := 18, slot := 0, constantValue := 0 }, { name := "serialVersionUID", type := .long, accessFlags := 26, slot := 12, constantValue := 0 }]
  methods := #[k12m0]
  instanceTypes := #[.double]
  staticTypes := #[.double, .double, .double, .double, .double, .double, .int, .int, .int, .int, .int, (.object "java/lang/Class"), .long]
  resolved := Array.replicate 290 none
  statics := none }

def pool13 : Array CpInfo := pool [(1, u "java/lang/Cloneable"), (0, .class_ 1), (0, u "java/lang/Object"), (0, .class_ 3)] 3

/-- java/lang/Cloneable -/
def k13 : Class := { plain "java/lang/Cloneable" (some 0) with
  accessFlags := 1537
  interfaces := #[]
  cf := some (fileOf pool13 2 #[] #[] 1537 4 #[] #[])
  fields := #[]
  methods := #[]
  instanceTypes := #[]
  staticTypes := #[]
  resolved := Array.replicate 8 none
  statics := none }

/-- the primitive byte -/
def k14 : Class := { plain "byte" none with kind := .primitive 'B', accessFlags := 0x411 }
/-- [B -/
def k15 : Class := { plain "[B" (some 0) with kind := .array 14 .byte, interfaces := #[13, 4], accessFlags := 1041 }

/-- the primitive int -/
def k16 : Class := { plain "int" none with kind := .primitive 'I', accessFlags := 0x411 }
/-- [I -/
def k17 : Class := { plain "[I" (some 0) with kind := .array 16 .int, interfaces := #[13, 4], accessFlags := 1041 }

def heap : Heap := #[]
def classes : Array Class := #[k0, k1, k2, k3, k4, k5, k6, k7, k8, k9, k10, k11, k12, k13, k14, k15, k16, k17]
def interned : List (Array UInt16 × Addr) := []
def slotsUsed : Nat := 0
def theMethod : MethodId := ⟨1, 2⟩
def args0 : Array Value := #[.int 3, .int 9, .int 2, .int 7, .int 5, .int 4]
def aboutOver (below : List Frame) : State where
  vm := { classes := classes, interned := interned.toArray }
  heap := heap
  slotsUsed := slotsUsed
  threads := #[{ frames := .invoking theMethod args0 :: below }]
def below0 : List Frame := [.native { method := ⟨0, 0⟩, args := #[] }]
def about1 : State := aboutOver below0
def p0 : Program := .bare "" "" ""
def e0 : Env := launch0.env 0 0 0
theorem w_frames : about1.frames = Frame.invoking theMethod args0 :: below0 := rfl
set_option maxRecDepth 65536 in
theorem w_args : argsFit about1.vm theMethod args0 = true := by decide +kernel
set_option maxRecDepth 65536 in
theorem w_heap : heapFits about1 = true := by decide +kernel
set_option maxRecDepth 65536 in
theorem w_runnable : about1.curStatus? = some .runnable := by decide +kernel
set_option maxRecDepth 65536 in
theorem w_alone : about1.alone = true := by decide +kernel
set_option maxRecDepth 65536 in
theorem w_named : about1.methodNamed? x = some theMethod := by decide +kernel
set_option maxRecDepth 65536 in
theorem w_hears : about1.hears theMethod below0 = true := by decide +kernel
set_option maxRecDepth 65536 in
theorem w_ripe : about1.ripe theMethod args0 below0 = true := by decide +kernel
theorem w_running : about1.status = .running := rfl
set_option maxRecDepth 65536 in
theorem w_room : about1.hasRoom e0.platform room_1 = true :=
  launch0.hasRoom_least _ room_1 (by decide +kernel) (by decide +kernel) (by decide +kernel) (by decide +kernel) (by decide +kernel) (by decide +kernel)
theorem allAtoms_all (ts : List Jvm.Cond) (a : Array Jvm.Value) (st : Jvm.State) : (allAtoms ts).before a st = ts.all (fun c => c.before a st) := by
  induction ts with
  | nil => rfl
  | cons c t ih =>
    show (Jvm.Cond.and c (allAtoms t)).before a st = _
    rw [Jvm.Cond.before_and, ih, List.all_cons]
def words1 : List Jvm.Cond := Jvm.Cond.code x code maxLocals ret :: tables_1
/-- a 'code' word, met by the world's own term for the bytes: nothing is compared byte by byte -/
theorem code_word {y : MethodName} {bytes : ByteArray} {mx : Nat} {rt : Option FieldType} {a : Array Value} {s : State} {m : MethodId} {meth : Method} {c : Code} (h1 : s.methodNamed? y = some m) (h2 : s.vm.method? m = some meth) (h3 : meth.code = some c) (h4 : c.code = bytes)
    (h5 : (c.maxLocals == mx && c.exceptionTable.isEmpty && decide (c.maxStack ≤ mostOperands) && decide (meth.sig.returnType = rt) && !meth.locks && decide (parseMethodDescriptor y.desc = some meth.sig)) = true) : (Jvm.Cond.code y bytes mx rt).before a s = true := by
  simp only [Bool.and_eq_true, beq_iff_eq, Bool.not_eq_true', decide_eq_true_eq] at h5
  obtain ⟨⟨⟨⟨⟨g1, g2⟩, g3⟩, g4⟩, g5⟩, g6⟩ := h5
  simp [Cond.before, Cond.holds, Cond.value, h1, h2, h3, h4, g1, g2, g3, g4, g5, g6]
def isCode : Jvm.Cond → Bool
  | .code _ _ _ _ => true
  | _ => false
theorem all_split {L : List Jvm.Cond} {P : Jvm.Cond → Bool} (h1 : L.all (fun c => isCode c || P c) = true) (h2 : ∀ c ∈ L.filter isCode, P c = true) : L.all P = true := by
  refine List.all_eq_true.mpr fun c hc => ?_
  have h := List.all_eq_true.mp h1 c hc
  rcases Bool.eq_false_or_eq_true (isCode c) with hi | hi
  · exact h2 c (List.mem_filter.mpr ⟨hc, hi⟩)
  · simpa [hi] using h
set_option maxRecDepth 65536 in
theorem w_c0 : (Jvm.Cond.code x code maxLocals ret).before args0 about1 = true := code_word (m := ⟨1, 2⟩) (meth := k1m2) (c := k1c2) (by decide +kernel) rfl rfl rfl (by decide +kernel)
set_option maxRecDepth 65536 in
theorem w_c1 : (Jvm.Cond.code ({ cls := "java/lang/Math", name := "min", desc := "(II)I" } : Jvm.MethodName) jdk_29_method_69_code (2 : Nat) (Option.some Jvm.ClassFile.FieldType.int)).before args0 about1 = true := code_word (m := ⟨2, 3⟩) (meth := k2m3) (c := k2c3) (by decide +kernel) rfl rfl rfl (by decide +kernel)
set_option maxRecDepth 65536 in
theorem w_c2 : (Jvm.Cond.code ({ cls := "java/lang/Math", name := "max", desc := "(II)I" } : Jvm.MethodName) jdk_29_method_65_code (2 : Nat) (Option.some Jvm.ClassFile.FieldType.int)).before args0 about1 = true := code_word (m := ⟨2, 2⟩) (meth := k2m2) (c := k2c2) (by decide +kernel) rfl rfl rfl (by decide +kernel)
set_option maxRecDepth 65536 in
theorem w_c3 : (Jvm.Cond.code ({ cls := "com/example/sagasu/sagasu/Extent", name := "<init>", desc := "(DDDD)V" } : Jvm.MethodName) prog_11_method_1_code (9 : Nat) (Option.none : Option Jvm.ClassFile.FieldType)).before args0 about1 = true := code_word (m := ⟨3, 0⟩) (meth := k3m0) (c := k3c0) (by decide +kernel) rfl rfl rfl (by decide +kernel)
set_option maxRecDepth 65536 in
theorem w_c4 : (Jvm.Cond.code ({ cls := "java/lang/Object", name := "<init>", desc := "()V" } : Jvm.MethodName) object_method_1_code (1 : Nat) (Option.none : Option Jvm.ClassFile.FieldType)).before args0 about1 = true := code_word (m := ⟨0, 0⟩) (meth := k0m0) (c := k0c0) (by decide +kernel) rfl rfl rfl (by decide +kernel)
set_option maxRecDepth 65536 in
theorem w_c5 : (Jvm.Cond.code ({ cls := "com/example/sagasu/sagasu/DataObject", name := "checkCoordinate", desc := "(Ljava/lang/String;D)D" } : Jvm.MethodName) prog_8_method_6_code (3 : Nat) (Option.some Jvm.ClassFile.FieldType.double)).before args0 about1 = true := code_word (m := ⟨10, 0⟩) (meth := k10m0) (c := k10c0) (by decide +kernel) rfl rfl rfl (by decide +kernel)
set_option maxRecDepth 65536 in
theorem w_c6 : (Jvm.Cond.code ({ cls := "java/lang/Double", name := "isFinite", desc := "(D)Z" } : Jvm.MethodName) jdk_117_method_8_code (2 : Nat) (Option.some Jvm.ClassFile.FieldType.boolean)).before args0 about1 = true := code_word (m := ⟨12, 0⟩) (meth := k12m0) (c := k12c0) (by decide +kernel) rfl rfl rfl (by decide +kernel)
set_option maxRecDepth 65536 in
theorem w_c7 : (Jvm.Cond.code ({ cls := "java/lang/Math", name := "abs", desc := "(D)D" } : Jvm.MethodName) jdk_29_method_64_code (2 : Nat) (Option.some Jvm.ClassFile.FieldType.double)).before args0 about1 = true := code_word (m := ⟨2, 1⟩) (meth := k2m1) (c := k2c1) (by decide +kernel) rfl rfl rfl (by decide +kernel)
set_option maxRecDepth 65536 in
theorem w_c8 : (Jvm.Cond.code ({ cls := "com/example/sagasu/sagasu/Extent", name := "contains", desc := "(DD)Z" } : Jvm.MethodName) prog_11_method_6_code (5 : Nat) (Option.some Jvm.ClassFile.FieldType.boolean)).before args0 about1 = true := code_word (m := ⟨3, 1⟩) (meth := k3m1) (c := k3c1) (by decide +kernel) rfl rfl rfl (by decide +kernel)
set_option maxRecDepth 65536 in
theorem w_c9 : (Jvm.Cond.code ({ cls := "com/example/sagasu/sagasu/ExtentContainsPinLaw", name := "inClosed", desc := "(III)Z" } : Jvm.MethodName) method_2_code (3 : Nat) (Option.some Jvm.ClassFile.FieldType.boolean)).before args0 about1 = true := code_word (m := ⟨1, 1⟩) (meth := k1m1) (c := k1c1) (by decide +kernel) rfl rfl rfl (by decide +kernel)
def codes1 : List Jvm.Cond := [Jvm.Cond.code x code maxLocals ret, Jvm.Cond.code ({ cls := "java/lang/Math", name := "min", desc := "(II)I" } : Jvm.MethodName) jdk_29_method_69_code (2 : Nat) (Option.some Jvm.ClassFile.FieldType.int), Jvm.Cond.code ({ cls := "java/lang/Math", name := "max", desc := "(II)I" } : Jvm.MethodName) jdk_29_method_65_code (2 : Nat) (Option.some Jvm.ClassFile.FieldType.int), Jvm.Cond.code ({ cls := "com/example/sagasu/sagasu/Extent", name := "<init>", desc := "(DDDD)V" } : Jvm.MethodName) prog_11_method_1_code (9 : Nat) (Option.none : Option Jvm.ClassFile.FieldType), Jvm.Cond.code ({ cls := "java/lang/Object", name := "<init>", desc := "()V" } : Jvm.MethodName) object_method_1_code (1 : Nat) (Option.none : Option Jvm.ClassFile.FieldType), Jvm.Cond.code ({ cls := "com/example/sagasu/sagasu/DataObject", name := "checkCoordinate", desc := "(Ljava/lang/String;D)D" } : Jvm.MethodName) prog_8_method_6_code (3 : Nat) (Option.some Jvm.ClassFile.FieldType.double), Jvm.Cond.code ({ cls := "java/lang/Double", name := "isFinite", desc := "(D)Z" } : Jvm.MethodName) jdk_117_method_8_code (2 : Nat) (Option.some Jvm.ClassFile.FieldType.boolean), Jvm.Cond.code ({ cls := "java/lang/Math", name := "abs", desc := "(D)D" } : Jvm.MethodName) jdk_29_method_64_code (2 : Nat) (Option.some Jvm.ClassFile.FieldType.double), Jvm.Cond.code ({ cls := "com/example/sagasu/sagasu/Extent", name := "contains", desc := "(DD)Z" } : Jvm.MethodName) prog_11_method_6_code (5 : Nat) (Option.some Jvm.ClassFile.FieldType.boolean), Jvm.Cond.code ({ cls := "com/example/sagasu/sagasu/ExtentContainsPinLaw", name := "inClosed", desc := "(III)Z" } : Jvm.MethodName) method_2_code (3 : Nat) (Option.some Jvm.ClassFile.FieldType.boolean)]
set_option maxRecDepth 65536 in
theorem codes_eq : words1.filter isCode = codes1 := rfl
theorem w_codes : ∀ c ∈ words1.filter isCode, c.before args0 about1 = true := by
  rw [codes_eq]
  intro c hc
  simp only [codes1, List.mem_cons, List.not_mem_nil, or_false] at hc
  rcases hc with rfl | rfl | rfl | rfl | rfl | rfl | rfl | rfl | rfl | rfl
  · exact w_c0
  · exact w_c1
  · exact w_c2
  · exact w_c3
  · exact w_c4
  · exact w_c5
  · exact w_c6
  · exact w_c7
  · exact w_c8
  · exact w_c9
set_option maxRecDepth 65536 in
theorem w_t1 : (words1.take 24).all (fun c => isCode c || c.before args0 about1) = true := by decide +kernel
set_option maxRecDepth 65536 in
theorem w_t2 : ((words1.drop 24).take 24).all (fun c => isCode c || c.before args0 about1) = true := by decide +kernel
set_option maxRecDepth 65536 in
theorem w_t3 : ((words1.drop 24).drop 24).all (fun c => isCode c || c.before args0 about1) = true := by decide +kernel
theorem w_tables : (allAtoms (Jvm.Cond.code x code maxLocals ret :: tables_1)).before args0 about1 = true := by
  rw [allAtoms_all]
  show words1.all (fun c => c.before args0 about1) = true
  refine all_split ?_ w_codes
  rw [← List.take_append_drop 24 words1, List.all_append, w_t1, ← List.take_append_drop 24 (words1.drop 24), List.all_append, w_t2, w_t3]
  rfl
set_option maxRecDepth 65536 in
theorem w_case : (Jvm.Cond.and given_1 narrow_1).before args0 about1 = true := by decide +kernel
theorem w_applies : (headSpec (Jvm.Cond.code x code maxLocals ret :: tables_1) room_1).applies x e0.platform about1 = true :=
  (Spec.applies_iff w_frames).mpr ⟨w_running, w_runnable, w_alone, w_named, w_hears, w_ripe, w_room, w_tables⟩
theorem atStart : AtStart classFile x code maxLocals ret World_1 tables_1 room_1 Calls_1 rest_1 Pre_1 launch0 p0 e0 about1 theMethod args0 below0 :=
  ⟨lists_1, trivial, launch0.admits_env _ _ _, launch0.least_env, fairChoices_fair.cas, fairChoices_fair.clock, w_frames, w_args, w_heap, w_applies, trivial, trivial, w_case⟩
end start1
theorem witness_1 : WitnessClaimed_1 := ⟨start1.p0, start1.e0, start1.about1, start1.theMethod, start1.args0, start1.below0, start1.atStart⟩
end Jvm.Pilot.@@N@@
